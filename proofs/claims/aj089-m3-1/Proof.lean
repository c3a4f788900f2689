import JvmDerived
import JvmDerived.Pilot.@@N@@Statement
import JvmDerived.Pilot.@@N@@Code
set_option linter.unusedVariables false
set_option linter.unusedSimpArgs false
namespace Jvm.Pilot.@@N@@
open Jvm Jvm.ClassFile Sem Op Lib Jvm.Free Jvm.Stand Jvm.LawKit Jvm.RoadKit Bundle Jvm.Pilot.@@N@@.Jvm.D
section Own
variable {p : Program} {l : Launch} {e : Env} {R : Room} {s : State} {m : MethodId} {args : Array Value} {below : List Frame} {meth : Method} {c : Code} {T : State} {locs : List Loc} {cells slots : Nat} {Z : State} {a0 : Array Value} {K : State → Outcome → Prop} {pc pc' : Nat} {Ls : Array Slot} {st : List Value} {h : Heap}
/-- from here the run ends, and what is left is as K says -/
def own_Go (p : Program) (e : Env) (below : List Frame) (K : State → Outcome → Prop) (T : State) (f : JFrame) : Prop :=
  ∃ s₂ o, Steps p.tables e below (T.setTop f) s₂ ∧ s₂.status = .running ∧ Ended s₂ below o ∧ K s₂ o
def own_K (Q : Option Value → Heap → List Loc → Prop) (s : State) (cs ss : Nat) : State → Outcome → Prop := fun u o => ∃ v L, o = .returned v ∧ Q v u.heap L ∧ FrameEnd s o u L cs ss
theorem own_go {T' : State} {f f' : JFrame} (h : ∀ t, Steps p.tables e below (T'.setTop f') t → Steps p.tables e below (T.setTop f) t) (k : own_Go p e below K T' f') : own_Go p e below K T f := by
  obtain ⟨a, b, c, d⟩ := k
  exact ⟨a, b, h _ c, d⟩
theorem own_w {tb : List Jvm.Cond} (hw : ∀ d ∈ tb, d.before a0 Z = true) {d : Jvm.Cond} (k : Nat) (h : tb[k]? = some d) : d.before a0 Z = true := hw _ (List.mem_of_getElem? h)
/-- a method's contract: called with these arguments over this heap it returns, and Q says what it leaves -/
abbrev own_Met (l : Launch) (Z : State) (y : MethodName) (bytes : ByteArray) (mx : Nat) (rt : Option FieldType) (ws : List Jvm.Cond) (rm : Room) (as : Array Value) (h0 : Heap) (Q : Option Value → Heap → List Loc → Prop) : Prop :=
  MetFree l y (head1 (Jvm.Cond.code y bytes mx rt :: ws) rm) (fun a U => a = as ∧ Z.Warmed39 U.vm ∧ U.heap = h0) (fun _ _ _ _ _ => True) (fun _ U o U' => ∃ v L, o = .returned v ∧ Q v U'.heap L ∧ FrameEnd U o U' L rm.cells rm.slots)
theorem own_body {y : MethodName} {bytes : ByteArray} {mx : Nat} {rt : Option FieldType} {ws : List Jvm.Cond} {rm : Room} {as : Array Value} {h0 : Heap} {Q : Option Value → Heap → List Loc → Prop} (hp : plainFor y = true)
    (body : ∀ (p : Program) (e : Env) (s : State) (m : MethodId) (below : List Frame) (meth : Method) (c : Code) (T : State), Stand p l e rm s m as below meth c T [] 0 0 → p.tables.exec = Jvm.exec → c.code = bytes → c.maxLocals = mx → meth.sig.returnType = rt → meth.locks = false → Z.Warmed39 s.vm → s.vm.findClass y.cls = some m.cls → meth.name = y.name → T.heap = h0 →
      own_Go p e below (own_K Q s rm.cells rm.slots) T (entryFrame m as mx)) : own_Met l Z y bytes mx rt ws rm as h0 Q := by
  refine MetFree.of_bodySF hp hisR ?_
  intro p e s m args below meth c s₁ Bd hml0 hP hK
  obtain ⟨rfl, hZ, hh⟩ := hP
  exact body p e s m below meth c s₁ (Stand.of_body Bd) Bd.exec Bd.bytes hml0 Bd.returns Bd.notSynchronized hZ (findClass_of_methodNamed Bd.named) (name_of_methodNamed Bd.named Bd.method).1 (by rw [← hh, Bd.state]; rfl)
theorem own_ret (X : Stand p l e R s m args below meth c T locs cells slots) (hx : p.tables.exec = Jvm.exec) {Q : Option Value → Heap → List Loc → Prop} {cs ss : Nat} {w : Value} {t : FieldType} {i : Instr} {rest : List Value} (hlk : meth.locks = false) (hret : meth.sig.returnType = some t) (hd : decode c.code pc = .ok (i, 1)) (hn : narrow t w = w)
    (hi : (i = .ireturn ∧ (t = .int ∨ t = .boolean ∨ t = .byte ∨ t = .char ∨ t = .short) ∧ ∃ z, w = .int z) ∨ (i = .lreturn ∧ t = .long ∧ ∃ z, w = .long z) ∨ (i = .dreturn ∧ t = .double ∧ ∃ z, w = .double z) ∨ (i = .freturn ∧ t = .float ∧ ∃ z, w = .float z) ∨ (i = .areturn ∧ t.isReference = true ∧ w.isRef = true))
    (hc : cells ≤ cs) (hs : slots ≤ ss) (hq : Q (some w) T.heap locs) : own_Go p e below (own_K Q s cs ss) T (mkF m pc Ls (w :: rest)) := by
  obtain ⟨fs, hr, hrun, hended, hW, hsame⟩ := X.leave (v := some w) (fun h => by rw [hret] at h; cases h) hlk
  exact ⟨_, _, retOut X hx hret hn hi hd hr, hrun, hended, _, _, rfl, hq, ⟨_, rfl⟩, hW, hsame.mono hc hs⟩
theorem own_retI (X : Stand p l e R s m args below meth c T locs cells slots) (hx : p.tables.exec = Jvm.exec) {Q : Option Value → Heap → List Loc → Prop} {cs ss : Nat} {z : Int32} {rest : List Value} (hlk : meth.locks = false) (hret : meth.sig.returnType = some .int) (hd : decode c.code pc = .ok (.ireturn, 1)) (hc : cells ≤ cs) (hs : slots ≤ ss) (hq : Q (some (.int z)) T.heap locs) : own_Go p e below (own_K Q s cs ss) T (mkF m pc Ls (.int z :: rest)) :=
  own_ret X hx hlk hret hd rfl (Or.inl ⟨rfl, Or.inl rfl, z, rfl⟩) hc hs hq
theorem own_retZ (X : Stand p l e R s m args below meth c T locs cells slots) (hx : p.tables.exec = Jvm.exec) {Q : Option Value → Heap → List Loc → Prop} {cs ss : Nat} {z : Int32} {rest : List Value} (hlk : meth.locks = false) (hret : meth.sig.returnType = some .boolean) (hd : decode c.code pc = .ok (.ireturn, 1)) (hn : z = 0 ∨ z = 1) (hc : cells ≤ cs) (hs : slots ≤ ss) (hq : Q (some (.int z)) T.heap locs) : own_Go p e below (own_K Q s cs ss) T (mkF m pc Ls (.int z :: rest)) :=
  own_ret X hx hlk hret hd (by rcases hn with rfl | rfl <;> rfl) (Or.inl ⟨rfl, Or.inr (Or.inl rfl), z, rfl⟩) hc hs hq
theorem own_retJ (X : Stand p l e R s m args below meth c T locs cells slots) (hx : p.tables.exec = Jvm.exec) {Q : Option Value → Heap → List Loc → Prop} {cs ss : Nat} {z : Int64} {rest : List Value} (hlk : meth.locks = false) (hret : meth.sig.returnType = some .long) (hd : decode c.code pc = .ok (.lreturn, 1)) (hc : cells ≤ cs) (hs : slots ≤ ss) (hq : Q (some (.long z)) T.heap locs) : own_Go p e below (own_K Q s cs ss) T (mkF m pc Ls (.long z :: rest)) :=
  own_ret X hx hlk hret hd rfl (Or.inr (Or.inl ⟨rfl, rfl, z, rfl⟩)) hc hs hq
theorem own_retA (X : Stand p l e R s m args below meth c T locs cells slots) (hx : p.tables.exec = Jvm.exec) {Q : Option Value → Heap → List Loc → Prop} {cs ss : Nat} {w : Value} {t : FieldType} {rest : List Value} (hlk : meth.locks = false) (hret : meth.sig.returnType = some t) (hd : decode c.code pc = .ok (.areturn, 1)) (ht : t.isReference = true) (hv : w.isRef = true) (hc : cells ≤ cs) (hs : slots ≤ ss) (hq : Q (some w) T.heap locs) : own_Go p e below (own_K Q s cs ss) T (mkF m pc Ls (w :: rest)) :=
  own_ret X hx hlk hret hd (by rcases ref_cases hv with rfl | ⟨a, rfl⟩ <;> cases t <;> first | rfl | cases ht) (Or.inr (Or.inr (Or.inr (Or.inr ⟨rfl, ht, hv⟩)))) hc hs hq
theorem own_retV (X : Stand p l e R s m args below meth c T locs cells slots) (hx : p.tables.exec = Jvm.exec) {Q : Option Value → Heap → List Loc → Prop} {cs ss : Nat} (hlk : meth.locks = false) (hret : meth.sig.returnType = none) (hd : decode c.code pc = .ok (.return_, 1)) (hc : cells ≤ cs) (hs : slots ≤ ss) (hq : Q none T.heap locs) : own_Go p e below (own_K Q s cs ss) T (mkF m pc Ls []) := by
  obtain ⟨fs, hr, hrun, hended, hW, hsame⟩ := X.leave (v := none) (fun _ => rfl) hlk
  exact ⟨_, _, X.returnOut hx hret hd hr, hrun, hended, _, _, rfl, hq, ⟨_, rfl⟩, hW, hsame.mono hc hs⟩
/-- the two roads of a conditional branch -/
theorem own_if (X : Stand p l e R s m args below meth c T locs cells slots) (hx : p.tables.exec = Jvm.exec) {cd : ClassFile.Cond} {o : Int} {z : Int32} {rest : List Value} (hd : decode c.code pc = .ok (.ifCond cd o, 3)) (ho : 0 ≤ (pc : Int) + o) (hp : ((pc : Int) + o).toNat = pc') {pc1 : Nat} (hp1 : pc + 3 = pc1) (P : Prop) (h1 : P → ifCond.holds cd z = true) (h2 : ¬ P → ifCond.holds cd z = false)
    (kt : P → own_Go p e below K T (mkF m pc' Ls rest)) (kf : ¬ P → own_Go p e below K T (mkF m pc1 Ls rest)) : own_Go p e below K T (mkF m pc Ls (.int z :: rest)) := by
  subst hp1
  by_cases q : P
  · exact own_go (fun t k => XS.ifYes X.here hx (g := mkF m pc Ls (.int z :: rest)) rfl (pc0 := pc) (pc' := pc') rfl hd rfl (h1 q) ho hp k) (kt q)
  · exact own_go (fun t k => XS.ifNo X.here hx (g := mkF m pc Ls (.int z :: rest)) rfl hd rfl (h2 q) k) (kf q)
theorem own_icmp (X : Stand p l e R s m args below meth c T locs cells slots) (hx : p.tables.exec = Jvm.exec) {cd : ClassFile.Cond} {o : Int} {y z : Int32} {rest : List Value} (hd : decode c.code pc = .ok (.if_icmp cd o, 3)) (ho : 0 ≤ (pc : Int) + o) (hp : ((pc : Int) + o).toNat = pc') {pc1 : Nat} (hp1 : pc + 3 = pc1) (P : Prop) (h1 : P → if_icmp.holds cd y z = true) (h2 : ¬ P → if_icmp.holds cd y z = false)
    (kt : P → own_Go p e below K T (mkF m pc' Ls rest)) (kf : ¬ P → own_Go p e below K T (mkF m pc1 Ls rest)) : own_Go p e below K T (mkF m pc Ls (.int z :: .int y :: rest)) := by
  subst hp1
  by_cases q : P
  · exact own_go (fun t k => XS.icmpYes X.here hx (g := mkF m pc Ls (.int z :: .int y :: rest)) rfl (pc0 := pc) (pc' := pc') rfl hd rfl (h1 q) ho hp k) (kt q)
  · exact own_go (fun t k => XS.icmpNo X.here hx (g := mkF m pc Ls (.int z :: .int y :: rest)) rfl hd rfl (h2 q) k) (kf q)
theorem own_callS (X : Stand p l e R s m args below meth c T locs cells slots) (hx : p.tables.exec = Jvm.exec) (hZ : Z.Warmed39 s.vm) {own : String} {index : Nat} {y : MethodName} {bytes : ByteArray} {mx : Nat} {rt : Option FieldType} {rm : Room} {argsL rest : List Value} {Q : Option Value → Heap → List Loc → Prop}
    (hown : s.vm.findClass own = some m.cls) (w1 : (Jvm.Cond.methodLink own index y).before a0 Z = true) (w2 : (Jvm.Cond.static y).before a0 Z = true) (w3 : (Jvm.Cond.initialized y.cls).before a0 Z = true) (w4 : (Jvm.Cond.code y bytes mx rt).before a0 Z = true) (hy : y.cls ≠ "java/lang/invoke/MethodHandle" ∧ y.cls ≠ "java/lang/invoke/VarHandle")
    (eT : T.heap = h) (hM : own_Met l Z y bytes mx rt [] rm argsL.toArray h Q) (W : Nat) (hf : rm.frames + 1 ≤ R.frames) (hl : W + (mx + 11) + rm.locals ≤ R.locals) (hcl : cells + rm.cells ≤ R.cells) (hsl : slots + rm.slots ≤ R.slots) (hsz : Ls.size = c.maxLocals) (hlen : ∀ sig, parseMethodDescriptor y.desc = some sig → argsL.length = sig.parameters.length)
    (hst : st = argsL.reverse ++ rest) (hW : (rest.map fun v => v.category).sum ≤ W) (hd : decode c.code pc = .ok (.invokestatic index, 3)) :
    ∃ v T' L, Stand p l e R s m args below meth c T' (locs ++ L) (cells + rm.cells) (slots + rm.slots) ∧ Q v T'.heap L ∧ ∀ t, Steps p.tables e below (T'.setTop (mkF m (pc + 3) Ls (v.toList ++ rest))) t → Steps p.tables e below (T.setTop (mkF m pc Ls st)) t := by
  obtain ⟨v, vm1, ⟨T', L', k', n'⟩, -, X', ⟨L, hQ, l1, l2, l3⟩, stp⟩ := Jvm.LawKit.callS X hx (y := y) hown (mvT hZ w1) (mvT hZ w2) (mvT hZ w3) (mvT hZ w4) hy (backOf (W := W) hM hZ w4 w3 hf hl) (g := mkF m pc Ls st) rfl hsz (argsL := argsL) (rest := rest) hlen hst (by show 2 * 0 + _ ≤ _; omega) hd (fun _ _ => ⟨rfl, eT, hcl, hsl⟩)
  dsimp only [Pt.U, Pt.locs, Pt.cells, Pt.slots] at X' l1 l2 l3 stp hQ
  subst l1 l2 l3
  exact ⟨v, T', L, X', hQ, stp⟩
theorem own_callV (X : Stand p l e R s m args below meth c T locs cells slots) (hx : p.tables.exec = Jvm.exec) (hZ : Z.Warmed39 s.vm) {own C : String} {index : Nat} {y z : MethodName} {bytes : ByteArray} {mx : Nat} {rt : Option FieldType} {rm : Room} {b : Addr} {argsL rest : List Value} {Q : Option Value → Heap → List Loc → Prop}
    (hown : s.vm.findClass own = some m.cls) (w1 : (Jvm.Cond.methodLink own index y).before a0 Z = true) (w2 : (Jvm.Cond.declares y).before a0 Z = true) (w3 : (Jvm.Cond.selects C y z).before a0 Z = true) (hnf : NotFace s y) (w4 : (Jvm.Cond.instanceMethod z).before a0 Z = true) (w5 : (Jvm.Cond.code z bytes mx rt).before a0 Z = true) (w6 : (Jvm.Cond.initialized z.cls).before a0 Z = true) (hy : y.cls ≠ "java/lang/invoke/MethodHandle" ∧ y.cls ≠ "java/lang/invoke/VarHandle")
    (eT : T.heap = h) (E : Exa Z h b C) (hM : own_Met l Z z bytes mx rt [] rm (.ref b :: argsL).toArray h Q) (W : Nat) (hf : rm.frames + 1 ≤ R.frames) (hl : W + (mx + 11) + rm.locals ≤ R.locals) (hcl : cells + rm.cells ≤ R.cells) (hsl : slots + rm.slots ≤ R.slots) (hsz : Ls.size = c.maxLocals) (hlen : ∀ sig, parseMethodDescriptor y.desc = some sig → argsL.length = sig.parameters.length)
    (hst : st = argsL.reverse ++ .ref b :: rest) (hW : (rest.map fun v => v.category).sum ≤ W) (hd : decode c.code pc = .ok (.invokevirtual index, 3)) :
    ∃ v T' L, Stand p l e R s m args below meth c T' (locs ++ L) (cells + rm.cells) (slots + rm.slots) ∧ Q v T'.heap L ∧ ∀ t, Steps p.tables e below (T'.setTop (mkF m (pc + 3) Ls (v.toList ++ rest))) t → Steps p.tables e below (T.setTop (mkF m pc Ls st)) t := by
  obtain ⟨cq, kq, q1, q2, q3⟩ := isOf hZ eT E
  obtain ⟨v, vm1, ⟨T', L', k', n'⟩, -, X', ⟨L, hQ, l1, l2, l3⟩, stp⟩ := X.virtualBack hx (y := y) (z := z) hown (mvT hZ w1) (mvT hZ w2) hnf (mvT hZ w3) (mvT hZ w4) hy (backOf (W := W) hM hZ w5 w6 hf hl) q1 q3 (g := mkF m pc Ls st) rfl hsz (Steps.refl _) (argsL := argsL) (rest := rest) hlen hst (by show 2 * 0 + _ ≤ _; omega) hd (fun _ _ => ⟨rfl, eT, hcl, hsl⟩)
  dsimp only [Pt.U, Pt.locs, Pt.cells, Pt.slots] at X' l1 l2 l3 stp hQ
  subst l1 l2 l3
  exact ⟨v, T', L, X', hQ, fun t k => stp.trans k⟩
theorem own_callU (X : Stand p l e R s m args below meth c T locs cells slots) (hx : p.tables.exec = Jvm.exec) (hZ : Z.Warmed39 s.vm) {own C owner : String} {index : Nat} {y z : MethodName} {bytes : ByteArray} {mx : Nat} {rt : Option FieldType} {rm : Room} {b : Addr} {argsL rest : List Value} {Q : Option Value → Heap → List Loc → Prop}
    (hown : s.vm.findClass own = some m.cls) (w1 : (Jvm.Cond.methodLink own index y).before a0 Z = true) (w2 : (Jvm.Cond.sameMethod y.cls owner y.name y.desc).before a0 Z = true) (w2' : (Jvm.Cond.declares ⟨owner, y.name, y.desc⟩).before a0 Z = true) (w3 : (Jvm.Cond.selects C y z).before a0 Z = true) (w4 : (Jvm.Cond.instanceMethod z).before a0 Z = true) (w5 : (Jvm.Cond.code z bytes mx rt).before a0 Z = true) (w6 : (Jvm.Cond.initialized z.cls).before a0 Z = true) (hy : owner ≠ "java/lang/invoke/MethodHandle" ∧ owner ≠ "java/lang/invoke/VarHandle")
    (eT : T.heap = h) (E : Exa Z h b C) (hM : own_Met l Z z bytes mx rt [] rm (.ref b :: argsL).toArray h Q) (W : Nat) (hf : rm.frames + 1 ≤ R.frames) (hl : W + (mx + 11) + rm.locals ≤ R.locals) (hcl : cells + rm.cells ≤ R.cells) (hsl : slots + rm.slots ≤ R.slots) (hsz : Ls.size = c.maxLocals) (hlen : ∀ sig, parseMethodDescriptor y.desc = some sig → argsL.length = sig.parameters.length)
    (hst : st = argsL.reverse ++ .ref b :: rest) (hW : (rest.map fun v => v.category).sum ≤ W) (hd : decode c.code pc = .ok (.invokevirtual index, 3)) :
    ∃ v T' L, Stand p l e R s m args below meth c T' (locs ++ L) (cells + rm.cells) (slots + rm.slots) ∧ Q v T'.heap L ∧ ∀ t, Steps p.tables e below (T'.setTop (mkF m (pc + 3) Ls (v.toList ++ rest))) t → Steps p.tables e below (T.setTop (mkF m pc Ls st)) t := by
  obtain ⟨cq, kq, q1, q2, q3⟩ := isOf hZ eT E
  obtain ⟨v, vm1, ⟨T', L', k', n'⟩, -, X', ⟨L, hQ, l1, l2, l3⟩, stp⟩ := X.virtualBackUp hx (x := y) (y := z) hown (mvT hZ w1) (mvT hZ w2) (mvT hZ w2') hy (mvT hZ w3) (mvT hZ w4) (backOf (W := W) hM hZ w5 w6 hf hl) q1 q3 (g := mkF m pc Ls st) rfl hsz (Steps.refl _) (argsL := argsL) (rest := rest) hlen hst (by show 2 * 0 + _ ≤ _; omega) hd (fun _ _ => ⟨rfl, eT, hcl, hsl⟩)
  dsimp only [Pt.U, Pt.locs, Pt.cells, Pt.slots] at X' l1 l2 l3 stp hQ
  subst l1 l2 l3
  exact ⟨v, T', L, X', hQ, fun t k => stp.trans k⟩
theorem own_callC (X : Stand p l e R s m args below meth c T locs cells slots) (hx : p.tables.exec = Jvm.exec) (hZ : Z.Warmed39 s.vm) {own : String} {index : Nat} {y : MethodName} {bytes : ByteArray} {mx : Nat} {rm : Room} {b : Addr} {argsL rest : List Value} {Q : Option Value → Heap → List Loc → Prop}
    (hy1 : y.name = "<init>") (hown : s.vm.findClass own = some m.cls) (w1 : (Jvm.Cond.methodLink own index y).before a0 Z = true) (w4 : (Jvm.Cond.instanceMethod y).before a0 Z = true) (w5 : (Jvm.Cond.code y bytes mx none).before a0 Z = true) (w6 : (Jvm.Cond.initialized y.cls).before a0 Z = true) (hy : y.cls ≠ "java/lang/invoke/MethodHandle" ∧ y.cls ≠ "java/lang/invoke/VarHandle")
    (eT : T.heap = h) (hM : own_Met l Z y bytes mx none [] rm (.ref b :: argsL).toArray h Q) (W : Nat) (hf : rm.frames + 1 ≤ R.frames) (hl : W + (mx + 11) + rm.locals ≤ R.locals) (hcl : cells + rm.cells ≤ R.cells) (hsl : slots + rm.slots ≤ R.slots) (hsz : Ls.size = c.maxLocals) (hlen : ∀ sig, parseMethodDescriptor y.desc = some sig → argsL.length = sig.parameters.length)
    (hst : st = argsL.reverse ++ .ref b :: rest) (hW : (rest.map fun v => v.category).sum ≤ W) (hd : decode c.code pc = .ok (.invokespecial index, 3)) :
    ∃ v T' L, Stand p l e R s m args below meth c T' (locs ++ L) (cells + rm.cells) (slots + rm.slots) ∧ Q v T'.heap L ∧ ∀ t, Steps p.tables e below (T'.setTop (mkF m (pc + 3) Ls (v.toList ++ rest))) t → Steps p.tables e below (T.setTop (mkF m pc Ls st)) t := by
  obtain ⟨v, vm1, ⟨T', L', k', n'⟩, -, X', ⟨L, hQ, l1, l2, l3⟩, stp⟩ := X.specialBack hx (y := y) hy1 hown (mvT hZ w1) (mvT hZ w4) (mvT hZ w5) hy (backOf (W := W) hM hZ w5 w6 hf hl) (g := mkF m pc Ls st) rfl hsz (Steps.refl _) (a := b) (argsL := argsL) (rest := rest) hlen hst (by show 2 * 0 + _ ≤ _; omega) hd (fun _ _ => ⟨rfl, eT, hcl, hsl⟩)
  dsimp only [Pt.U, Pt.locs, Pt.cells, Pt.slots] at X' l1 l2 l3 stp hQ
  subst l1 l2 l3
  exact ⟨v, T', L, X', hQ, fun t k => stp.trans k⟩
end Own
section OwnStart
variable {Z : State} {args : Array Value} {t u : Term} {a : Addr} {C n d : String}
theorem own_eqI {k : Int32} (h : (Jvm.Cond.eq t (.int k)).value args Z none Z [] = some true) : t.eval args Z none [] Z = some (.int k) := by
  simp only [Cond.value, Term.eval] at h
  cases ht : t.eval args Z none [] Z with
  | none => simp [ht] at h
  | some x => cases x <;> simp [ht] at h ⊢; exact h
theorem own_eqJ {k : Int64} (h : (Jvm.Cond.eq t (.long k)).value args Z none Z [] = some true) : t.eval args Z none [] Z = some (.long k) := by
  simp only [Cond.value, Term.eval] at h
  cases ht : t.eval args Z none [] Z with
  | none => simp [ht] at h
  | some x => cases x <;> simp [ht] at h ⊢; exact h
theorem own_fld {v : Value} (ev : t.eval args Z none [] Z = some (.ref a)) (h : (Term.field t C n d).eval args Z none [] Z = some v) : Fld Z Z.heap a C n d v := Fld.start ((fld_at ev).symm.trans h)
theorem own_eqR {b : Addr} (ha : t.eval args Z none [] Z = some (.ref b)) (h : (Jvm.Cond.eq u t).value args Z none Z [] = some true) : u.eval args Z none [] Z = some (.ref b) := by
  cases hu : u.eval args Z none [] Z with
  | none => simp [Cond.value, hu] at h
  | some x => cases x <;> simp [Cond.value, hu, ha] at h ⊢; exact h
theorem own_lenOf {cl : Cell} {ty : FieldType} {k : Int32} (ev : t.eval args Z none [] Z = some (.ref a)) (A : Arr Z Z.heap a cl ty) (h : (Term.length t).eval args Z none [] Z = some (.int k)) : cl.slots.size < 2 ^ 31 ∧ cl.slots.size.toInt32 = k := by
  have q := A.fin (Vm.Alike.refl _)
  by_cases hl : cl.slots.size < 2 ^ 31
  · rw [len_f ev q hl] at h
    exact ⟨hl, by cases h; rfl⟩
  · simp [Term.eval, ev, q, hl] at h
end OwnStart
section OwnArr
variable {p : Program} {l : Launch} {e : Env} {R : Room} {s : State} {m : MethodId} {args : Array Value} {below : List Frame} {meth : Method} {c : Code} {T : State} {locs : List Loc} {cells slots : Nat} {Z : State} {a0 : Array Value} {K : State → Outcome → Prop} {pc pc' : Nat} {Ls : Array Slot} {rest : List Value} {h : Heap}
theorem own_oldge {n0 : Nat} (O : Old Z n0 h) : n0 ≤ h.size := O.1 ▸ O.2.1
theorem own_newR (X : Stand p l e R s m args below meth c T locs cells slots) (hx : p.tables.exec = Jvm.exec) (hZ : Z.Warmed39 s.vm) {own C : String} {index : Nat} (hown : s.vm.findClass own = some m.cls) (w1 : (Jvm.Cond.classLink own index C).before a0 Z = true) (w2 : (Jvm.Cond.arrayOver (.object C)).before a0 Z = true) (eT : T.heap = h)
    (hd : decode c.code pc = .ok (.anewarray index, 3)) {n : Int32} (hn : ¬ n < 0) (cap : Nat) (hcap : n.toNatClampNeg ≤ cap) (hb : cap * 8 ≤ 536870912) (hc : cells + 1 ≤ R.cells) (hl : slots + cap ≤ R.slots) :
    ∃ T' h' b kA, Stand p l e R s m args below meth c T' locs (cells + 1) (slots + cap) ∧ T'.heap = h' ∧ Ext h h' ∧ b = h.size ∧ Arv Z h' b kA (.object C) n (List.replicate cap .null) .null ∧ Ovr Z kA C ∧ ∀ t, Steps p.tables e below (T'.setTop (mkF m (pc + 3) Ls (.ref b :: rest))) t → Steps p.tables e below (T.setTop (mkF m pc Ls (.int n :: rest))) t := by
  obtain ⟨T', h', kA, X', e', E', A', O', st'⟩ := newR X hx hZ hown w1 w2 eT (g := mkF m pc Ls (.int n :: rest)) rfl hd rfl hn hcap hb hc hl
  exact ⟨T', h', h.size, kA, X', e', E', rfl, (Arv.new A' hn).pad (pad_rep [] _ cap), O', st'⟩
theorem own_stR (X : Stand p l e R s m args below meth c T locs cells slots) (hx : p.tables.exec = Jvm.exec) (hZ : Z.Warmed39 s.vm) (eT : T.heap = h) {b y : Addr} {kA : ClassId} {C : String} {n j : Int32} {vs vs' : List Value} (V : Arv Z h b kA (.object C) n vs .null) (O : Ovr Z kA C) (I : Ins Z h y C true) (hj : ¬ j < 0 ∧ j < n) (i : Nat) (hi : j.toNatClampNeg = i) (hil : i < vs.length) (hvs : vs.set i (.ref y) = vs') {n0 : Nat} (N : Fr n0 locs) (g : n0 ≤ b)
    (hd : decode c.code pc = .ok (.aastore, 1)) :
    ∃ T' h' L', Stand p l e R s m args below meth c T' L' cells slots ∧ Fr n0 L' ∧ T'.heap = h' ∧ Wr h h' b i (.ref y) ∧ Arv Z h' b kA (.object C) n vs' .null ∧ ∀ t, Steps p.tables e below (T'.setTop (mkF m (pc + 1) Ls rest)) t → Steps p.tables e below (T.setTop (mkF m pc Ls (.ref y :: .int j :: .ref b :: rest))) t := by
  obtain ⟨cl, A, q, S, Nn, H, G⟩ := V
  subst hvs
  obtain ⟨T', h', X', e', W', st'⟩ := stR X hx hZ eT A (j := j) (inb_of S hj) rfl (Sto.ofV A q O I) (g := mkF m pc Ls (.ref y :: .int j :: .ref b :: rest)) rfl rfl hd
  refine ⟨T', h', _, X', Fr.snoc X' N g, e', hi ▸ W', Arv.set A q S Nn H G rfl W' i hi hil, st'⟩
theorem own_ldR (X : Stand p l e R s m args below meth c T locs cells slots) (hx : p.tables.exec = Jvm.exec) (hZ : Z.Warmed39 s.vm) (eT : T.heap = h) {b : Addr} {kA : ClassId} {ty : FieldType} {n j : Int32} {vs : List Value} {dv v : Value} (V : Arv Z h b kA ty n vs dv) (hty : ty.isReference = true) (hj : ¬ j < 0 ∧ j < n) (hv : vs.getD j.toNatClampNeg dv = v) (hd : decode c.code pc = .ok (.aaload, 1)) :
    ∀ t, Steps p.tables e below (T.setTop (mkF m (pc + 1) Ls (v :: rest))) t → Steps p.tables e below (T.setTop (mkF m pc Ls (.int j :: .ref b :: rest))) t := by
  obtain ⟨cl, A, q, S, Nn, H, G⟩ := V
  intro t k
  exact X.aaload hx (j := j) (v := v) (by rw [eT]; exact A.1) (State.isArrayOf_alike hZ.alike A.2.1) hty A.2.2 (inb_of S hj) (H.at (inb_of S hj) hv) (g := mkF m pc Ls (.int j :: .ref b :: rest)) rfl rfl hd t k
theorem own_len (X : Stand p l e R s m args below meth c T locs cells slots) (hx : p.tables.exec = Jvm.exec) (hZ : Z.Warmed39 s.vm) (eT : T.heap = h) {b : Addr} {kA : ClassId} {ty : FieldType} {n : Int32} {vs : List Value} {dv : Value} (V : Arv Z h b kA ty n vs dv) (hd : decode c.code pc = .ok (.arraylength, 1)) :
    ∀ t, Steps p.tables e below (T.setTop (mkF m (pc + 1) Ls (.int n :: rest))) t → Steps p.tables e below (T.setTop (mkF m pc Ls (.ref b :: rest))) t := by
  obtain ⟨cl, A, q, S, Nn, H, G⟩ := V
  intro t k
  refine X.arraylength hx (by rw [eT]; exact A.1) (State.isArrayOf_alike hZ.alike A.2.1) (g := mkF m pc Ls (.ref b :: rest)) rfl rfl hd t ?_
  rw [len_of S Nn]
  exact k
end OwnArr
theorem own_maskInt (x : Int32) : 0 ≤ (x &&& (2147483647 : Int32)).toInt := by
  have h : (x &&& (2147483647 : Int32)).toBitVec.msb = false := by
    show (x.toBitVec &&& 2147483647#32).msb = false
    rw [BitVec.msb_and]
    have : (2147483647#32).msb = false := by decide
    rw [this, Bool.and_false]
  have h2 : (x &&& (2147483647 : Int32)).toInt = (x &&& (2147483647 : Int32)).toBitVec.toInt := rfl
  rw [h2, BitVec.toInt_eq_toNat_of_msb h]
  omega
theorem own_rem (x n : Int32) (hn : 0 < n.toInt) : ¬ (x &&& (2147483647 : Int32)) % n < 0 ∧ (x &&& (2147483647 : Int32)) % n < n := by
  have h0 := own_maskInt x
  have e0 : (0 : Int32).toInt = 0 := rfl
  rw [Int32.lt_iff_toInt_lt, Int32.lt_iff_toInt_lt, Int32.toInt_mod, e0]
  have h1 := Int.tmod_nonneg n.toInt h0
  have h2 := Int.tmod_lt_of_pos (x &&& (2147483647 : Int32)).toInt hn
  omega
section OwnPrim
variable {p : Program} {l : Launch} {e : Env} {R : Room} {s : State} {m : MethodId} {args : Array Value} {below : List Frame} {meth : Method} {c : Code} {T : State} {locs : List Loc} {cells slots : Nat} {Z : State} {a0 : Array Value} {K : State → Outcome → Prop} {pc pc' : Nat} {Ls : Array Slot} {rest : List Value} {h : Heap}
theorem own_newP (X : Stand p l e R s m args below meth c T locs cells slots) (hx : p.tables.exec = Jvm.exec) (hZ : Z.Warmed39 s.vm) {aty : ArrayType} {ty : FieldType} (hty : newarray.typeOf aty = ty) (w : (Jvm.Cond.arrayClass ty).before a0 Z = true) (eT : T.heap = h)
    (hd : decode c.code pc = .ok (.newarray aty, 2)) {n : Int32} (hn : ¬ n < 0) (cap : Nat) (hcap : n.toNatClampNeg ≤ cap) (hb : cap * 8 ≤ 536870912) (hc : cells + 1 ≤ R.cells) (hl : slots + cap ≤ R.slots) :
    ∃ T' h' b kA, Stand p l e R s m args below meth c T' locs (cells + 1) (slots + cap) ∧ T'.heap = h' ∧ Ext h h' ∧ b = h.size ∧ Arv Z h' b kA ty n (List.replicate cap (defaultValue ty)) (defaultValue ty) ∧ ∀ t, Steps p.tables e below (T'.setTop (mkF m (pc + 2) Ls (.ref b :: rest))) t → Steps p.tables e below (T.setTop (mkF m pc Ls (.int n :: rest))) t := by
  subst hty
  obtain ⟨T', h', kA, X', e', E', A', st'⟩ := newP X hx hZ w eT (g := mkF m pc Ls (.int n :: rest)) rfl hd rfl hn hcap hb hc hl
  exact ⟨T', h', h.size, kA, X', e', E', rfl, (Arv.new A' hn).pad (pad_rep [] _ cap), st'⟩
theorem own_stB (X : Stand p l e R s m args below meth c T locs cells slots) (hx : p.tables.exec = Jvm.exec) (hZ : Z.Warmed39 s.vm) (eT : T.heap = h) {b : Addr} {kA : ClassId} {n j y : Int32} {vs vs' : List Value} {dv : Value} (V : Arv Z h b kA .byte n vs dv) (hy : y.toInt8.toInt32 = y) (hj : ¬ j < 0 ∧ j < n) (i : Nat) (hi : j.toNatClampNeg = i) (hil : i < vs.length) (hvs : vs.set i (.int y) = vs') {n0 : Nat} (N : Fr n0 locs) (g : n0 ≤ b)
    (hd : decode c.code pc = .ok (.bastore, 1)) :
    ∃ T' h' L', Stand p l e R s m args below meth c T' L' cells slots ∧ Fr n0 L' ∧ T'.heap = h' ∧ Wr h h' b i (.int y) ∧ Arv Z h' b kA .byte n vs' dv ∧ ∀ t, Steps p.tables e below (T'.setTop (mkF m (pc + 1) Ls rest)) t → Steps p.tables e below (T.setTop (mkF m pc Ls (.int y :: .int j :: .ref b :: rest))) t := by
  obtain ⟨cl, A, q, S, Nn, H, G⟩ := V
  subst hvs
  obtain ⟨T', h', X', e', W', st'⟩ := stB X hx hZ eT A (j := j) (inb_of S hj) (g := mkF m pc Ls (.int y :: .int j :: .ref b :: rest)) rfl rfl hd
  have hn : nar .byte y = y := hy
  rw [hn] at W'
  refine ⟨T', h', _, X', Fr.snoc X' N g, e', hi ▸ W', Arv.set A q S Nn H G (by have := fits_nar_byte y; rwa [hy] at this) W' i hi hil, st'⟩
theorem own_stJ (X : Stand p l e R s m args below meth c T locs cells slots) (hx : p.tables.exec = Jvm.exec) (hZ : Z.Warmed39 s.vm) (eT : T.heap = h) {b : Addr} {kA : ClassId} {n j : Int32} {y : Int64} {vs vs' : List Value} {dv : Value} (V : Arv Z h b kA .long n vs dv) (hj : ¬ j < 0 ∧ j < n) (i : Nat) (hi : j.toNatClampNeg = i) (hil : i < vs.length) (hvs : vs.set i (.long y) = vs') {n0 : Nat} (N : Fr n0 locs) (g : n0 ≤ b)
    (hd : decode c.code pc = .ok (.lastore, 1)) :
    ∃ T' h' L', Stand p l e R s m args below meth c T' L' cells slots ∧ Fr n0 L' ∧ T'.heap = h' ∧ Wr h h' b i (.long y) ∧ Arv Z h' b kA .long n vs' dv ∧ ∀ t, Steps p.tables e below (T'.setTop (mkF m (pc + 1) Ls rest)) t → Steps p.tables e below (T.setTop (mkF m pc Ls (.long y :: .int j :: .ref b :: rest))) t := by
  obtain ⟨cl, A, q, S, Nn, H, G⟩ := V
  subst hvs
  obtain ⟨T', h', X', e', W', st'⟩ := stJ X hx hZ eT A (j := j) (inb_of S hj) (g := mkF m pc Ls (.long y :: .int j :: .ref b :: rest)) rfl rfl hd
  refine ⟨T', h', _, X', Fr.snoc X' N g, e', hi ▸ W', Arv.set A q S Nn H G rfl W' i hi hil, st'⟩
theorem own_ldB (X : Stand p l e R s m args below meth c T locs cells slots) (hx : p.tables.exec = Jvm.exec) (hZ : Z.Warmed39 s.vm) (eT : T.heap = h) {b : Addr} {kA : ClassId} {n j : Int32} {vs : List Value} {dv v : Value} (V : Arv Z h b kA .byte n vs dv) (hj : ¬ j < 0 ∧ j < n) (hv : vs.getD j.toNatClampNeg dv = v) (hd : decode c.code pc = .ok (.baload, 1)) :
    ∀ t, Steps p.tables e below (T.setTop (mkF m (pc + 1) Ls (v :: rest))) t → Steps p.tables e below (T.setTop (mkF m pc Ls (.int j :: .ref b :: rest))) t := by
  obtain ⟨cl, A, q, S, Nn, H, G⟩ := V
  intro t k
  exact X.baloadBytes hx (j := j) (v := v) (by rw [eT]; exact A.1) (State.isArrayOf_alike hZ.alike A.2.1) A.2.2 (inb_of S hj) (H.at (inb_of S hj) hv) (g := mkF m pc Ls (.int j :: .ref b :: rest)) rfl rfl hd t k
theorem own_ldJ (X : Stand p l e R s m args below meth c T locs cells slots) (hx : p.tables.exec = Jvm.exec) (hZ : Z.Warmed39 s.vm) (eT : T.heap = h) {b : Addr} {kA : ClassId} {n j : Int32} {vs : List Value} {dv v : Value} (V : Arv Z h b kA .long n vs dv) (hj : ¬ j < 0 ∧ j < n) (hv : vs.getD j.toNatClampNeg dv = v) (hd : decode c.code pc = .ok (.laload, 1)) :
    ∀ t, Steps p.tables e below (T.setTop (mkF m (pc + 1) Ls (v :: rest))) t → Steps p.tables e below (T.setTop (mkF m pc Ls (.int j :: .ref b :: rest))) t := by
  obtain ⟨cl, A, q, S, Nn, H, G⟩ := V
  intro t k
  exact X.laload hx (j := j) (v := v) (by rw [eT]; exact A.1) (State.isArrayOf_alike hZ.alike A.2.1) A.2.2 (inb_of S hj) (H.at (inb_of S hj) hv) (g := mkF m pc Ls (.int j :: .ref b :: rest)) rfl rfl hd t k
end OwnPrim
theorem own_b8 (x : Int32) : x.toInt8.toInt32.toInt8.toInt32 = x.toInt8.toInt32 := by simp
section OwnObj
variable {p : Program} {l : Launch} {e : Env} {R : Room} {s : State} {m : MethodId} {args : Array Value} {below : List Frame} {meth : Method} {c : Code} {T : State} {locs : List Loc} {cells slots : Nat} {Z : State} {a0 : Array Value} {pc : Nat} {Ls : Array Slot} {st rest : List Value} {h : Heap}
theorem own_newO (X : Stand p l e R s m args below meth c T locs cells slots) (hx : p.tables.exec = Jvm.exec) (hZ : Z.Warmed39 s.vm) {own C : String} {index n : Nat} (hown : s.vm.findClass own = some m.cls) (w : (Jvm.Cond.classLink own index C).before a0 Z = true) (wi : (Jvm.Cond.instantiable C n).before a0 Z = true) (wz : (Jvm.Cond.initialized C).before a0 Z = true) (eT : T.heap = h)
    (hd : decode c.code pc = .ok (.new index, 3)) (hc : cells + 1 ≤ R.cells) (hl : slots + n ≤ R.slots) :
    ∃ T' h' b, Stand p l e R s m args below meth c T' locs (cells + 1) (slots + n) ∧ T'.heap = h' ∧ Ext h h' ∧ b = h.size ∧ Exa Z h' b C ∧ (∀ {O nm d : String} {ty : FieldType}, Laid Z a0 C O nm d → parseFieldDescriptor d = some ty → Fld Z h' b O nm d (defaultValue ty)) ∧
      ∀ t, Steps p.tables e below (T'.setTop (mkF m (pc + 3) Ls (.ref b :: st))) t → Steps p.tables e below (T.setTop (mkF m pc Ls st)) t := by
  obtain ⟨T', h', X', e', E', A', D', -, st'⟩ := newO X hx hZ hown w wi wz eT (g := mkF m pc Ls st) rfl hd hc hl
  exact ⟨T', h', h.size, X', e', E', rfl, A', D', st'⟩
theorem own_refNar {t : FieldType} {v : Value} (ht : t.isReference = true) (hv : v.isRef = true) : narrow t v = v := by
  rcases ref_cases hv with rfl | ⟨a, rfl⟩ <;> cases t <;> first | rfl | cases ht
theorem own_refFit {t : FieldType} {v : Value} (ht : t.isReference = true) (hv : v.isRef = true) : fits t v = true := by
  rcases ref_cases hv with rfl | ⟨a, rfl⟩ <;> cases t <;> first | rfl | cases ht
theorem own_putF (X : Stand p l e R s m args below meth c T locs cells slots) (hx : p.tables.exec = Jvm.exec) (hZ : Z.Warmed39 s.vm) {own R0 O n d host C : String} {index kk : Nat} (hown : s.vm.findClass own = some m.cls) (w : (Jvm.Cond.fieldLink own index R0 n d).before a0 Z = true ∨ (Jvm.Cond.fieldLinkNest own index R0 n d host).before a0 Z = true) (via : Via Z R0 O n d)
    (eT : T.heap = h) {a : Addr} {v old : Value} (F : Fld Z h a O n d old) (E : Exa Z h a C) (L : (Jvm.Cond.lays C O n d).before a0 Z = true ∨ ((Jvm.Cond.laysFinal C O n d).before a0 Z = true ∧ own = O ∧ meth.name = "<init>")) (wi : (Jvm.Cond.instantiable C kk).before a0 Z = true)
    (ty : FieldType) (hty : parseFieldDescriptor d = some ty) (hn : narrow ty v = v) (hf : fits ty v = true) {n0 : Nat} (N : Fr n0 locs) (g : n0 ≤ a) (hd : decode c.code pc = .ok (.putfield index, 3)) :
    ∃ T' h' L', Stand p l e R s m args below meth c T' L' cells slots ∧ Fr n0 L' ∧ T'.heap = h' ∧ Wr h h' a (Jvm.RoadKit.slotOf Z O n d) v ∧ Fld Z h' a O n d v ∧ ∀ t, Steps p.tables e below (T'.setTop (mkF m (pc + 3) Ls rest)) t → Steps p.tables e below (T.setTop (mkF m pc Ls (v :: .ref a :: rest))) t := by
  obtain ⟨T', h', X', e', W', st'⟩ := putF X hx hZ hown w via eT F E L wi (ty := ty) hty hn hf (g := mkF m pc Ls (v :: .ref a :: rest)) rfl rfl hd
  exact ⟨T', h', _, X', Fr.snoc X' N g, e', W', F.same W', st'⟩
end OwnObj
section OwnFn
theorem own_oInt {a : Nat} (h : a < 2147483648) : (Int32.ofNat a).toInt = a := by
  have := len_toInt (n := a) h
  exact this
theorem own_oNat {a : Nat} (h : a < 2147483648) : (Int32.ofNat a).toNatClampNeg = a := by
  simp only [Int32.toNatClampNeg, own_oInt h]; rfl
theorem own_oLt {a b : Nat} (ha : a < 2147483648) (hb : b < 2147483648) : Int32.ofNat a < Int32.ofNat b ↔ a < b := by
  rw [Int32.lt_iff_toInt_lt, own_oInt ha, own_oInt hb]; omega
theorem own_oEq {a b : Nat} (ha : a < 2147483648) (hb : b < 2147483648) : Int32.ofNat a = Int32.ofNat b ↔ a = b := by
  rw [← Int32.toInt_inj, own_oInt ha, own_oInt hb]; omega
theorem own_oNeg {a : Nat} (ha : a < 2147483648) : ¬ Int32.ofNat a < 0 := by
  have e0 : (0 : Int32).toInt = 0 := rfl
  rw [Int32.lt_iff_toInt_lt, own_oInt ha, e0]; omega
theorem own_oAdd (a b : Nat) : Int32.ofNat a + Int32.ofNat b = Int32.ofNat (a + b) := (Int32.ofNat_add ..).symm
theorem own_oSub {a b : Nat} (h : b ≤ a) (ha : a < 2147483648) : Int32.ofNat a - Int32.ofNat b = Int32.ofNat (a - b) := by
  rw [← Int32.toInt_inj, Int32.toInt_sub, own_oInt ha, own_oInt (by omega), own_oInt (by omega), Int.bmod_eq_of_le (by omega) (by omega)]; omega
variable {p : Program} {l : Launch} {e : Env} {R : Room} {s : State} {m : MethodId} {args : Array Value} {below : List Frame} {meth : Method} {c : Code} {T : State} {locs : List Loc} {cells slots : Nat} {Z : State} {pc : Nat} {Ls : Array Slot} {rest : List Value} {h h' : Heap} {b : Addr} {n : Nat} {f : Nat → Int32} {g : Nat → Int64}
/-- the byte array at b: its length, and what it holds -/
def own_BA (Z : State) (h : Heap) (b : Addr) (n : Nat) (f : Nat → Int32) : Prop := ∃ cl : Cell, Arr Z h b cl .byte ∧ cl.slots.size = n ∧ ∀ i, i < n → cl.slots[i]? = some (.int (f i))
def own_LA (Z : State) (h : Heap) (b : Addr) (n : Nat) (g : Nat → Int64) : Prop := ∃ cl : Cell, Arr Z h b cl .long ∧ cl.slots.size = n ∧ ∀ i, i < n → cl.slots[i]? = some (.long (g i))
theorem own_BA_of {k : ClassId} {z : Int32} {vs : List Value} {dv : Value} (V : Arv Z h b k .byte z vs dv) (hz : z.toNatClampNeg = n) (hf : ∀ i, i < n → vs.getD i dv = .int (f i)) : own_BA Z h b n f := by
  obtain ⟨cl, A, -, S, -, H, -⟩ := V
  exact ⟨cl, A, S.trans hz, fun i hi => by rw [H i (by omega), hf i hi]⟩
theorem own_LA_of {k : ClassId} {z : Int32} {vs : List Value} {dv : Value} (V : Arv Z h b k .long z vs dv) (hz : z.toNatClampNeg = n) (hf : ∀ i, i < n → vs.getD i dv = .long (g i)) : own_LA Z h b n g := by
  obtain ⟨cl, A, -, S, -, H, -⟩ := V
  exact ⟨cl, A, S.trans hz, fun i hi => by rw [H i (by omega), hf i hi]⟩
theorem own_BA.other {a : Addr} {sl : Nat} {v : Value} (V : own_BA Z h b n f) (W : Wr h h' a sl v) (q : b ≠ a) : own_BA Z h' b n f := by obtain ⟨cl, A, r⟩ := V; exact ⟨cl, A.other W q, r⟩
theorem own_LA.other {a : Addr} {sl : Nat} {v : Value} (V : own_LA Z h b n g) (W : Wr h h' a sl v) (q : b ≠ a) : own_LA Z h' b n g := by obtain ⟨cl, A, r⟩ := V; exact ⟨cl, A.other W q, r⟩
theorem own_BA.keep {ws : List Addr} (V : own_BA Z h b n f) (K : Keep h h' ws) (q : b ∉ ws) : own_BA Z h' b n f := by obtain ⟨cl, A, r⟩ := V; exact ⟨cl, ⟨K.2.1 b cl A.1 q, A.2⟩, r⟩
theorem own_LA.keep {ws : List Addr} (V : own_LA Z h b n g) (K : Keep h h' ws) (q : b ∉ ws) : own_LA Z h' b n g := by obtain ⟨cl, A, r⟩ := V; exact ⟨cl, ⟨K.2.1 b cl A.1 q, A.2⟩, r⟩
theorem own_BA.ext (V : own_BA Z h b n f) (E : Ext h h') : own_BA Z h' b n f := by obtain ⟨cl, A, r⟩ := V; exact ⟨cl, A.ext E, r⟩
theorem own_LA.ext (V : own_LA Z h b n g) (E : Ext h h') : own_LA Z h' b n g := by obtain ⟨cl, A, r⟩ := V; exact ⟨cl, A.ext E, r⟩
theorem own_oIn {cl : Cell} {i : Nat} (hs : cl.slots.size = n) (hn : n < 2147483648) (hi : i < n) : ¬ (Int32.ofNat i < 0 ∨ cl.slots.size ≤ (Int32.ofNat i).toNatClampNeg) := fun q => by
  rcases q with q | q
  · exact own_oNeg (by omega) q
  · rw [own_oNat (by omega)] at q; omega
theorem own_ldBA (X : Stand p l e R s m args below meth c T locs cells slots) (hx : p.tables.exec = Jvm.exec) (hZ : Z.Warmed39 s.vm) (eT : T.heap = h) (V : own_BA Z h b n f) (hn : n < 2147483648) (i : Nat) (hi : i < n) (hd : decode c.code pc = .ok (.baload, 1)) :
    ∀ t, Steps p.tables e below (T.setTop (mkF m (pc + 1) Ls (.int (f i) :: rest))) t → Steps p.tables e below (T.setTop (mkF m pc Ls (.int (Int32.ofNat i) :: .ref b :: rest))) t := by
  obtain ⟨cl, A, S, H⟩ := V
  intro t k
  exact X.baloadBytes hx (j := Int32.ofNat i) (v := .int (f i)) (by rw [eT]; exact A.1) (State.isArrayOf_alike hZ.alike A.2.1) A.2.2 (own_oIn S hn hi) (by rw [own_oNat (by omega)]; exact H i hi) (g := mkF m pc Ls (.int (Int32.ofNat i) :: .ref b :: rest)) rfl rfl hd t k
theorem own_ldLA (X : Stand p l e R s m args below meth c T locs cells slots) (hx : p.tables.exec = Jvm.exec) (hZ : Z.Warmed39 s.vm) (eT : T.heap = h) (V : own_LA Z h b n g) (hn : n < 2147483648) (i : Nat) (hi : i < n) (hd : decode c.code pc = .ok (.laload, 1)) :
    ∀ t, Steps p.tables e below (T.setTop (mkF m (pc + 1) Ls (.long (g i) :: rest))) t → Steps p.tables e below (T.setTop (mkF m pc Ls (.int (Int32.ofNat i) :: .ref b :: rest))) t := by
  obtain ⟨cl, A, S, H⟩ := V
  intro t k
  exact X.laload hx (j := Int32.ofNat i) (v := .long (g i)) (by rw [eT]; exact A.1) (State.isArrayOf_alike hZ.alike A.2.1) A.2.2 (own_oIn S hn hi) (by rw [own_oNat (by omega)]; exact H i hi) (g := mkF m pc Ls (.int (Int32.ofNat i) :: .ref b :: rest)) rfl rfl hd t k
theorem own_stBA (X : Stand p l e R s m args below meth c T locs cells slots) (hx : p.tables.exec = Jvm.exec) (hZ : Z.Warmed39 s.vm) (eT : T.heap = h) (V : own_BA Z h b n f) (hn : n < 2147483648) (i : Nat) (hi : i < n) {y : Int32} (hy : y.toInt8.toInt32 = y) {f' : Nat → Int32} (hf : ∀ x, f' x = if x = i then y else f x) {n0 : Nat} (N : Fr n0 locs) (g : n0 ≤ b) (hd : decode c.code pc = .ok (.bastore, 1)) :
    ∃ T' h' L', Stand p l e R s m args below meth c T' L' cells slots ∧ Fr n0 L' ∧ T'.heap = h' ∧ (∃ sl v, Wr h h' b sl v) ∧ own_BA Z h' b n f' ∧ ∀ t, Steps p.tables e below (T'.setTop (mkF m (pc + 1) Ls rest)) t → Steps p.tables e below (T.setTop (mkF m pc Ls (.int y :: .int (Int32.ofNat i) :: .ref b :: rest))) t := by
  obtain ⟨cl, A, S, H⟩ := V
  obtain ⟨T', h', X', e', W', st'⟩ := stB X hx hZ eT A (j := Int32.ofNat i) (own_oIn S hn hi) (g := mkF m pc Ls (.int y :: .int (Int32.ofNat i) :: .ref b :: rest)) rfl rfl hd
  have hnar : nar .byte y = y := hy
  rw [hnar, own_oNat (by omega)] at W'
  refine ⟨T', h', _, X', Fr.snoc X' N g, e', ⟨_, _, W'⟩, ⟨_, A.same W', ?_, fun x hx => ?_⟩, st'⟩
  · simp [Cell.setSlot, S]
  · rw [hf x]
    by_cases q : x = i
    · subst q; rw [if_pos rfl]; simp [Cell.setSlot, S, hx]
    · rw [if_neg q]
      simp only [Cell.setSlot]
      rw [Array.getElem?_setIfInBounds_ne (Ne.symm q)]
      exact H x hx
end OwnFn
section OwnChar
/-- a char as an int -/
def own_isC (x : Int32) : Prop := 0 ≤ x.toInt ∧ x.toInt < 65536
def own_hi (x : Int32) : Prop := ¬ x < 55296 ∧ x < 56320
def own_lo (x : Int32) : Prop := ¬ x < 56320 ∧ x < 57344
instance (x : Int32) : Decidable (own_hi x) := inferInstanceAs (Decidable (_ ∧ _))
instance (x : Int32) : Decidable (own_lo x) := inferInstanceAs (Decidable (_ ∧ _))
theorem own_hiI (x : Int32) : own_hi x ↔ 55296 ≤ x.toInt ∧ x.toInt < 56320 := by
  have e1 : (55296 : Int32).toInt = 55296 := rfl
  have e2 : (56320 : Int32).toInt = 56320 := rfl
  unfold own_hi
  rw [Int32.lt_iff_toInt_lt, Int32.lt_iff_toInt_lt, e1, e2]; omega
theorem own_loI (x : Int32) : own_lo x ↔ 56320 ≤ x.toInt ∧ x.toInt < 57344 := by
  have e1 : (56320 : Int32).toInt = 56320 := rfl
  have e2 : (57344 : Int32).toInt = 57344 := rfl
  unfold own_lo
  rw [Int32.lt_iff_toInt_lt, Int32.lt_iff_toInt_lt, e1, e2]; omega
theorem own_i32 (x : Int32) (n : Nat) (h : x.toBitVec.toNat = n) (hn : n < 2147483648) : x.toInt = n := by
  have q : x.toInt = x.toBitVec.toInt := rfl
  rw [q, BitVec.toInt_eq_toNat_of_lt (by omega), h]
theorem own_ofI (x : Int32) (n : Nat) (h : x.toInt = n) : x.toBitVec.toNat = n := by
  have q : x.toInt = x.toBitVec.toInt := rfl
  rw [q] at h
  have := x.toBitVec.isLt
  rw [BitVec.toInt_eq_toNat_cond] at h
  split at h <;> omega
theorem own_c16 (x : Int32) : (x.toUInt32.toUInt16.toUInt32.toInt32).toBitVec.toNat = x.toBitVec.toNat % 65536 := by
  show (x.toUInt32.toUInt16.toUInt32).toNat = _
  rw [UInt16.toNat_toUInt32, UInt32.toNat_toUInt16]
  rfl
theorem own_i2c (x : Int32) : own_isC (x.toUInt32.toUInt16.toUInt32.toInt32) := by
  have h := own_c16 x
  have h2 : x.toBitVec.toNat % 65536 < 65536 := Nat.mod_lt _ (by decide)
  have := own_i32 _ _ h (by omega)
  unfold own_isC; omega
theorem own_i2cId {x : Int32} (h : own_isC x) : x.toUInt32.toUInt16.toUInt32.toInt32 = x := by
  have h1 := own_ofI x x.toInt.toNat (by have := h.1; omega)
  apply Int32.toBitVec_inj.mp
  apply BitVec.eq_of_toNat_eq
  rw [own_c16, h1]
  have := h.2
  omega
theorem own_andN (x : Int32) (m : Int32) (k : Nat) (hm : m.toBitVec.toNat = 2 ^ k - 1) : (x &&& m).toBitVec.toNat = x.toBitVec.toNat % 2 ^ k := by
  show (x.toBitVec &&& m.toBitVec).toNat = _
  rw [BitVec.toNat_and, hm]
  exact Nat.and_two_pow_sub_one_eq_mod _ _
theorem own_orN (c y : Int32) (k a : Nat) (hc : c.toBitVec.toNat = 2 ^ k * a) (hy : y.toBitVec.toNat < 2 ^ k) : (c ||| y).toBitVec.toNat = 2 ^ k * a + y.toBitVec.toNat := by
  show (c.toBitVec ||| y.toBitVec).toNat = _
  rw [BitVec.toNat_or, hc]
  exact (Nat.two_pow_add_eq_or_of_lt hy a).symm
/-- the four kinds of a piece -/
theorem own_k0 (x : Int32) : ¬ own_hi ((x &&& (255 : Int32)).toUInt32.toUInt16.toUInt32.toInt32) := by
  have h := own_andN x 255 8 rfl
  have h1 : (x &&& (255 : Int32)).toBitVec.toNat < 256 := by rw [h]; exact Nat.mod_lt _ (by decide)
  have h2 := own_i32 _ _ (own_c16 (x &&& (255 : Int32))) (by omega)
  rw [own_hiI]; omega
theorem own_k1 (x : Int32) : own_hi (((55296 : Int32) ||| (x &&& (1023 : Int32))).toUInt32.toUInt16.toUInt32.toInt32) := by
  have h := own_andN x 1023 10 rfl
  have h1 : (x &&& (1023 : Int32)).toBitVec.toNat < 2 ^ 10 := by rw [h]; exact Nat.mod_lt _ (by decide)
  have h3 := own_orN 55296 _ 10 54 rfl h1
  have h2 := own_i32 _ _ (own_c16 ((55296 : Int32) ||| (x &&& (1023 : Int32)))) (by omega)
  rw [own_hiI]; omega
theorem own_k2 (x : Int32) : own_lo (((56320 : Int32) ||| (x &&& (1023 : Int32))).toUInt32.toUInt16.toUInt32.toInt32) := by
  have h := own_andN x 1023 10 rfl
  have h1 : (x &&& (1023 : Int32)).toBitVec.toNat < 2 ^ 10 := by rw [h]; exact Nat.mod_lt _ (by decide)
  have h3 := own_orN 56320 _ 10 55 rfl h1
  have h2 := own_i32 _ _ (own_c16 ((56320 : Int32) ||| (x &&& (1023 : Int32)))) (by omega)
  rw [own_loI]; omega
theorem own_loN {x : Int32} (h : own_lo x) : ¬ own_hi x := fun q => by rw [own_loI] at h; rw [own_hiI] at q; omega
theorem own_k3 (x : Int32) : ¬ own_hi (((57344 : Int32) + (x &&& (8191 : Int32))).toUInt32.toUInt16.toUInt32.toInt32) := by
  have h := own_andN x 8191 13 rfl
  have h1 : (x &&& (8191 : Int32)).toBitVec.toNat < 8192 := by rw [h]; exact Nat.mod_lt _ (by decide)
  have h3 : ((57344 : Int32) + (x &&& (8191 : Int32))).toBitVec.toNat = 57344 + (x &&& (8191 : Int32)).toBitVec.toNat := by
    show ((57344 : Int32).toBitVec + (x &&& (8191 : Int32)).toBitVec).toNat = _
    rw [BitVec.toNat_add]
    have : (57344 : Int32).toBitVec.toNat = 57344 := rfl
    omega
  have h2 := own_i32 _ _ (own_c16 ((57344 : Int32) + (x &&& (8191 : Int32)))) (by omega)
  rw [own_hiI]; omega
/-- the two bytes of a char, and the char out of them -/
def own_b0 (c : Int32) : Int32 := (c >>> ((0 : Int32) &&& 31)).toInt8.toInt32
def own_b1 (c : Int32) : Int32 := (c >>> ((8 : Int32) &&& 31)).toInt8.toInt32
theorem own_sx : ∀ b : BitVec 8, (b.signExtend 32 &&& 255#32).toNat = b.toNat := by decide
theorem own_b8N (x : Int32) : (x.toInt8.toInt32 &&& (255 : Int32)).toBitVec.toNat = x.toBitVec.toNat % 256 := by
  show ((x.toBitVec.signExtend 8).signExtend 32 &&& 255#32).toNat = _
  rw [own_sx]
  rw [BitVec.signExtend_eq_setWidth_of_le _ (by decide), BitVec.toNat_setWidth]
theorem own_get {c : Int32} (h : own_isC c) : (((own_b0 c &&& (255 : Int32)) <<< ((0 : Int32) &&& 31)) ||| ((own_b1 c &&& (255 : Int32)) <<< ((8 : Int32) &&& 31))).toUInt32.toUInt16.toUInt32.toInt32 = c := by
  have hc := own_ofI c c.toInt.toNat (by have := h.1; omega)
  have hb : c.toInt.toNat < 65536 := by have := h.2; omega
  have e0 : (c >>> ((0 : Int32) &&& 31)).toBitVec.toNat = c.toBitVec.toNat := by
    show (BitVec.sshiftRight c.toBitVec 0).toNat = _
    simp
  have e1 : (c >>> ((8 : Int32) &&& 31)).toBitVec.toNat = c.toBitVec.toNat / 256 := by
    show (BitVec.sshiftRight c.toBitVec 8).toNat = _
    rw [BitVec.sshiftRight_eq_of_msb_false (by rw [BitVec.msb_eq_false_iff_two_mul_lt]; omega), BitVec.toNat_ushiftRight, Nat.shiftRight_eq_div_pow]
  have f0 : (own_b0 c &&& (255 : Int32)).toBitVec.toNat = c.toBitVec.toNat % 256 := by unfold own_b0; rw [own_b8N, e0]
  have f1 : (own_b1 c &&& (255 : Int32)).toBitVec.toNat = c.toBitVec.toNat / 256 := by unfold own_b1; rw [own_b8N, e1]; omega
  have g0 : ((own_b0 c &&& (255 : Int32)) <<< ((0 : Int32) &&& 31)).toBitVec.toNat = c.toBitVec.toNat % 256 := by
    show ((own_b0 c &&& (255 : Int32)).toBitVec <<< 0).toNat = _
    rw [BitVec.toNat_shiftLeft, f0, Nat.shiftLeft_eq]; omega
  have g1 : ((own_b1 c &&& (255 : Int32)) <<< ((8 : Int32) &&& 31)).toBitVec.toNat = 2 ^ 8 * (c.toBitVec.toNat / 256) := by
    show ((own_b1 c &&& (255 : Int32)).toBitVec <<< 8).toNat = _
    rw [BitVec.toNat_shiftLeft, f1, Nat.shiftLeft_eq]; omega
  apply Int32.toBitVec_inj.mp
  apply BitVec.eq_of_toNat_eq
  rw [own_c16]
  have k : (((own_b0 c &&& (255 : Int32)) <<< ((0 : Int32) &&& 31)) ||| ((own_b1 c &&& (255 : Int32)) <<< ((8 : Int32) &&& 31))).toBitVec.toNat = 2 ^ 8 * (c.toBitVec.toNat / 256) + c.toBitVec.toNat % 256 := by
    have q := own_orN ((own_b1 c &&& (255 : Int32)) <<< ((8 : Int32) &&& 31)) ((own_b0 c &&& (255 : Int32)) <<< ((0 : Int32) &&& 31)) 8 _ g1 (by rw [g0]; omega)
    rw [g0] at q
    rw [← q, Int32.or_comm]
  rw [k]; omega
/-- the bytes of a UTF-16 string -/
def own_by (f : Nat → Int32) (j : Nat) : Int32 := if j % 2 = 0 then own_b0 (f (j / 2)) else own_b1 (f (j / 2))
/-- from i to n there are r pieces -/
def own_rs (f : Nat → Int32) (n : Nat) : Nat → Nat → Prop
  | 0, i => i = n
  | r + 1, i => i < n ∧ ((¬ own_hi (f i) ∧ own_rs f n r (i + 1)) ∨ (own_hi (f i) ∧ i + 1 < n ∧ own_lo (f (i + 1)) ∧ own_rs f n r (i + 2)))
/-- a piece from p to q -/
def own_pc (f : Nat → Int32) (p q : Nat) : Prop := (q = p + 1 ∧ ¬ own_hi (f p)) ∨ (q = p + 2 ∧ own_hi (f p) ∧ own_lo (f (p + 1)))
theorem own_rs_snoc {f f' : Nat → Int32} {n q : Nat} (ha : ∀ x, x < n → f' x = f x) (hp : own_pc f' n q) : ∀ r i, own_rs f n r i → own_rs f' q (r + 1) i
  | 0, i, h => by
    have h : i = n := h
    subst h
    rcases hp with ⟨rfl, h1⟩ | ⟨rfl, h1, h2⟩
    · exact ⟨by omega, Or.inl ⟨h1, rfl⟩⟩
    · exact ⟨by omega, Or.inr ⟨h1, by omega, h2, rfl⟩⟩
  | r + 1, i, h => by
    have hq : n < q := by rcases hp with ⟨rfl, -⟩ | ⟨rfl, -, -⟩ <;> omega
    obtain ⟨hi, h | h⟩ := h
    · exact ⟨by omega, Or.inl ⟨by rw [ha i hi]; exact h.1, own_rs_snoc ha hp r (i + 1) h.2⟩⟩
    · exact ⟨by omega, Or.inr ⟨by rw [ha i hi]; exact h.1, by omega, by rw [ha _ h.2.1]; exact h.2.2.1, own_rs_snoc ha hp r (i + 2) h.2.2.2⟩⟩
theorem own_rs_le {f : Nat → Int32} {n : Nat} : ∀ r i, own_rs f n r i → r ≤ n - i ∧ i ≤ n
  | 0, i, h => by have h : i = n := h; omega
  | r + 1, i, h => by
    obtain ⟨hi, h | h⟩ := h
    · have := own_rs_le r (i + 1) h.2; omega
    · have := own_rs_le r (i + 2) h.2.2.2; omega
/-- no char of it is high: one piece a char -/
theorem own_rs_all {f : Nat → Int32} {n : Nat} (ha : ∀ x, x < n → ¬ own_hi (f x)) : ∀ r i, own_rs f n r i → r = n - i
  | 0, i, h => by have h : i = n := h; omega
  | r + 1, i, h => by
    obtain ⟨hi, h | h⟩ := h
    · have := own_rs_all ha r (i + 1) h.2; omega
    · exact absurd h.1 (ha i hi)
theorem own_255 {x : Int32} (h : own_isC x) (q : ¬ (255 : Int32) < x) : ¬ own_hi x := fun z => by
  have e1 : (255 : Int32).toInt = 255 := rfl
  rw [Int32.lt_iff_toInt_lt, e1] at q; rw [own_hiI] at z; omega
end OwnChar
section OwnCA
variable {p : Program} {l : Launch} {e : Env} {R : Room} {s : State} {m : MethodId} {args : Array Value} {below : List Frame} {meth : Method} {c : Code} {T : State} {locs : List Loc} {cells slots : Nat} {Z : State} {a0 : Array Value} {pc : Nat} {Ls : Array Slot} {rest : List Value} {h h' : Heap} {b : Addr} {n : Nat} {f : Nat → Int32}
/-- the char array at b: its length, and what it holds -/
def own_CA (Z : State) (h : Heap) (b : Addr) (n : Nat) (f : Nat → Int32) : Prop := ∃ cl : Cell, Arr Z h b cl .char ∧ cl.slots.size = n ∧ ∀ i, i < n → cl.slots[i]? = some (.int (f i))
theorem own_CA.other {a : Addr} {sl : Nat} {v : Value} (V : own_CA Z h b n f) (W : Wr h h' a sl v) (q : b ≠ a) : own_CA Z h' b n f := by obtain ⟨cl, A, r⟩ := V; exact ⟨cl, A.other W q, r⟩
theorem own_CA.keep {ws : List Addr} (V : own_CA Z h b n f) (K : Keep h h' ws) (q : b ∉ ws) : own_CA Z h' b n f := by obtain ⟨cl, A, r⟩ := V; exact ⟨cl, ⟨K.2.1 b cl A.1 q, A.2⟩, r⟩
theorem own_CA.ext (V : own_CA Z h b n f) (E : Ext h h') : own_CA Z h' b n f := by obtain ⟨cl, A, r⟩ := V; exact ⟨cl, A.ext E, r⟩
theorem own_CA.lt (V : own_CA Z h b n f) : b < h.size := by obtain ⟨cl, A, r⟩ := V; exact A.lt
theorem own_BA.lt (V : own_BA Z h b n f) : b < h.size := by obtain ⟨cl, A, r⟩ := V; exact A.lt
theorem own_CA.cong {f' : Nat → Int32} (V : own_CA Z h b n f) (q : ∀ i, i < n → f' i = f i) : own_CA Z h b n f' := by
  obtain ⟨cl, A, S, H⟩ := V
  exact ⟨cl, A, S, fun i hi => by rw [q i hi]; exact H i hi⟩
theorem own_BA.congN {f' : Nat → Int32} (V : own_BA Z h b n f) (q : ∀ i, i < n → f' i = f i) : own_BA Z h b n f' := by
  obtain ⟨cl, A, S, H⟩ := V
  exact ⟨cl, A, S, fun i hi => by rw [q i hi]; exact H i hi⟩
theorem own_exaCA {x : Addr} {C : String} {k : Nat} (E : Exa Z h x C) (F : own_CA Z h b n f) (w : (Jvm.Cond.instantiable C k).before a0 Z = true) : x ≠ b := by
  obtain ⟨cl, A, S, H⟩ := F
  intro q
  subst q
  obtain ⟨c1, k1, h1, h2, h3, -⟩ := E
  cases h1.symm.trans A.1
  obtain ⟨cI, kI, hfI, hkI, hkindI, -⟩ := Cond.instantiable_spec w
  cases h2.symm.trans hfI
  obtain ⟨-, kk, hk, cm, hkind⟩ := A.2.1
  cases hkI.symm.trans hk
  rw [hkindI] at hkind; cases hkind
theorem own_exaBA {x : Addr} {C : String} {k : Nat} (E : Exa Z h x C) (F : own_BA Z h b n f) (w : (Jvm.Cond.instantiable C k).before a0 Z = true) : x ≠ b := by
  obtain ⟨cl, A, S, H⟩ := F
  intro q
  subst q
  obtain ⟨c1, k1, h1, h2, h3, -⟩ := E
  cases h1.symm.trans A.1
  obtain ⟨cI, kI, hfI, hkI, hkindI, -⟩ := Cond.instantiable_spec w
  cases h2.symm.trans hfI
  obtain ⟨-, kk, hk, cm, hkind⟩ := A.2.1
  cases hkI.symm.trans hk
  rw [hkindI] at hkind; cases hkind
theorem own_CABA {a : Addr} {k : Nat} {g : Nat → Int32} (E : own_CA Z h a k g) (F : own_BA Z h b n f) : a ≠ b := by
  obtain ⟨cl, A, -⟩ := F
  obtain ⟨cl', A', -⟩ := E
  intro q
  subst q
  cases A.1.symm.trans A'.1
  obtain ⟨-, kk, hk, cm, hkind⟩ := A.2.1
  obtain ⟨-, kk', hk', cm', hkind'⟩ := A'.2.1
  cases hk.symm.trans hk'
  rw [hkind'] at hkind; cases hkind
theorem own_ldCA (X : Stand p l e R s m args below meth c T locs cells slots) (hx : p.tables.exec = Jvm.exec) (hZ : Z.Warmed39 s.vm) (eT : T.heap = h) (V : own_CA Z h b n f) (hn : n < 2147483648) (i : Nat) (hi : i < n) (hd : decode c.code pc = .ok (.caload, 1)) :
    ∀ t, Steps p.tables e below (T.setTop (mkF m (pc + 1) Ls (.int (f i) :: rest))) t → Steps p.tables e below (T.setTop (mkF m pc Ls (.int (Int32.ofNat i) :: .ref b :: rest))) t := by
  obtain ⟨cl, A, S, H⟩ := V
  intro t k
  exact X.caload hx (j := Int32.ofNat i) (v := .int (f i)) (by rw [eT]; exact A.1) (State.isArrayOf_alike hZ.alike A.2.1) A.2.2 (own_oIn S hn hi) (by rw [own_oNat (by omega)]; exact H i hi) (g := mkF m pc Ls (.int (Int32.ofNat i) :: .ref b :: rest)) rfl rfl hd t k
theorem own_stCA (X : Stand p l e R s m args below meth c T locs cells slots) (hx : p.tables.exec = Jvm.exec) (hZ : Z.Warmed39 s.vm) (eT : T.heap = h) (V : own_CA Z h b n f) (hn : n < 2147483648) (i : Nat) (hi : i < n) {y : Int32} (hy : own_isC y) {f' : Nat → Int32} (hf : ∀ x, f' x = if x = i then y else f x) {n0 : Nat} (N : Fr n0 locs) (g : n0 ≤ b) (hd : decode c.code pc = .ok (.castore, 1)) :
    ∃ T' h' L', Stand p l e R s m args below meth c T' L' cells slots ∧ Fr n0 L' ∧ T'.heap = h' ∧ (∃ sl v, Wr h h' b sl v) ∧ own_CA Z h' b n f' ∧ ∀ t, Steps p.tables e below (T'.setTop (mkF m (pc + 1) Ls rest)) t → Steps p.tables e below (T.setTop (mkF m pc Ls (.int y :: .int (Int32.ofNat i) :: .ref b :: rest))) t := by
  obtain ⟨cl, A, S, H⟩ := V
  obtain ⟨T', h', X', e', W', st'⟩ := stC X hx hZ eT A (j := Int32.ofNat i) (own_oIn S hn hi) (g := mkF m pc Ls (.int y :: .int (Int32.ofNat i) :: .ref b :: rest)) rfl rfl hd
  have hnar : nar .char y = y := own_i2cId hy
  rw [hnar, own_oNat (by omega)] at W'
  refine ⟨T', h', _, X', Fr.snoc X' N g, e', ⟨_, _, W'⟩, ⟨_, A.same W', ?_, fun x hx => ?_⟩, st'⟩
  · simp [Cell.setSlot, S]
  · rw [hf x]
    by_cases q : x = i
    · subst q; rw [if_pos rfl]; simp [Cell.setSlot, S, hx]
    · rw [if_neg q]
      simp only [Cell.setSlot]
      rw [Array.getElem?_setIfInBounds_ne (Ne.symm q)]
      exact H x hx
theorem own_lenCA (X : Stand p l e R s m args below meth c T locs cells slots) (hx : p.tables.exec = Jvm.exec) (hZ : Z.Warmed39 s.vm) (eT : T.heap = h) (V : own_CA Z h b n f) (hd : decode c.code pc = .ok (.arraylength, 1)) :
    ∀ t, Steps p.tables e below (T.setTop (mkF m (pc + 1) Ls (.int (Int32.ofNat n) :: rest))) t → Steps p.tables e below (T.setTop (mkF m pc Ls (.ref b :: rest))) t := by
  obtain ⟨cl, A, S, H⟩ := V
  intro t k
  refine X.arraylength hx (by rw [eT]; exact A.1) (State.isArrayOf_alike hZ.alike A.2.1) (g := mkF m pc Ls (.ref b :: rest)) rfl rfl hd t ?_
  rw [S]
  exact k
theorem own_lenBA (X : Stand p l e R s m args below meth c T locs cells slots) (hx : p.tables.exec = Jvm.exec) (hZ : Z.Warmed39 s.vm) (eT : T.heap = h) (V : own_BA Z h b n f) (hd : decode c.code pc = .ok (.arraylength, 1)) :
    ∀ t, Steps p.tables e below (T.setTop (mkF m (pc + 1) Ls (.int (Int32.ofNat n) :: rest))) t → Steps p.tables e below (T.setTop (mkF m pc Ls (.ref b :: rest))) t := by
  obtain ⟨cl, A, S, H⟩ := V
  intro t k
  refine X.arraylength hx (by rw [eT]; exact A.1) (State.isArrayOf_alike hZ.alike A.2.1) (g := mkF m pc Ls (.ref b :: rest)) rfl rfl hd t ?_
  rw [S]
  exact k
theorem own_newBA (X : Stand p l e R s m args below meth c T locs cells slots) (hx : p.tables.exec = Jvm.exec) (hZ : Z.Warmed39 s.vm) (w : (Jvm.Cond.arrayClass .byte).before a0 Z = true) (eT : T.heap = h)
    (hd : decode c.code pc = .ok (.newarray .byte, 2)) (n cap : Nat) (hcap : n ≤ cap) (hb : cap * 8 ≤ 536870912) (hc : cells + 1 ≤ R.cells) (hl : slots + cap ≤ R.slots) :
    ∃ T' h' b, Stand p l e R s m args below meth c T' locs (cells + 1) (slots + cap) ∧ T'.heap = h' ∧ Ext h h' ∧ b = h.size ∧ own_BA Z h' b n (fun _ => 0) ∧ ∀ t, Steps p.tables e below (T'.setTop (mkF m (pc + 2) Ls (.ref b :: rest))) t → Steps p.tables e below (T.setTop (mkF m pc Ls (.int (Int32.ofNat n) :: rest))) t := by
  obtain ⟨T', h', b, kA, X', e', E', g', V', st'⟩ := own_newP (Ls := Ls) (rest := rest) X hx hZ (ty := .byte) rfl w eT hd (n := Int32.ofNat n) (own_oNeg (by omega)) cap (by rw [own_oNat (by omega)]; exact hcap) hb hc hl
  refine ⟨T', h', b, X', e', E', g', own_BA_of V' (own_oNat (by omega)) (fun i hi => ?_), st'⟩
  rw [List.getD_eq_getElem?_getD, List.getElem?_replicate, if_pos (by omega)]; rfl
theorem own_newCA (X : Stand p l e R s m args below meth c T locs cells slots) (hx : p.tables.exec = Jvm.exec) (hZ : Z.Warmed39 s.vm) (w : (Jvm.Cond.arrayClass .char).before a0 Z = true) (eT : T.heap = h)
    (hd : decode c.code pc = .ok (.newarray .char, 2)) (n cap : Nat) (hcap : n ≤ cap) (hb : cap * 8 ≤ 536870912) (hc : cells + 1 ≤ R.cells) (hl : slots + cap ≤ R.slots) :
    ∃ T' h' b, Stand p l e R s m args below meth c T' locs (cells + 1) (slots + cap) ∧ T'.heap = h' ∧ Ext h h' ∧ b = h.size ∧ own_CA Z h' b n (fun _ => 0) ∧ ∀ t, Steps p.tables e below (T'.setTop (mkF m (pc + 2) Ls (.ref b :: rest))) t → Steps p.tables e below (T.setTop (mkF m pc Ls (.int (Int32.ofNat n) :: rest))) t := by
  obtain ⟨T', h', b, kA, X', e', E', g', V', st'⟩ := own_newP (Ls := Ls) (rest := rest) X hx hZ (ty := .char) rfl w eT hd (n := Int32.ofNat n) (own_oNeg (by omega)) cap (by rw [own_oNat (by omega)]; exact hcap) hb hc hl
  obtain ⟨cl, A, -, S, -, H, -⟩ := V'
  have hs : cl.slots.size = n := S.trans (own_oNat (by omega))
  refine ⟨T', h', b, X', e', E', g', ⟨cl, A, hs, fun i hi => ?_⟩, st'⟩
  rw [H i (by omega), List.getD_eq_getElem?_getD, List.getElem?_replicate, if_pos (by omega)]; rfl
end OwnCA
section OwnWide
variable {p : Program} {l : Launch} {e : Env} {R : Room} {s : State} {vm0 : Vm} {m : MethodId} {args : Array Value} {below : List Frame} {meth : Method} {c : Code} {T : State} {locs : List Loc} {cells slots : Nat} {Z : State} {a0 : Array Value} {pc : Nat} {Ls : Array Slot} {st rest : List Value} {h : Heap} {k : Nat}
def own_KW (Q : Option Value → Heap → List Loc → Prop) (s : State) (cs ss : Nat) : State → Outcome → Prop := fun u o => ∃ v L, o = .returned v ∧ Q v u.heap L ∧ ReturnedEndW s o u L cs ss
/-- a contract of a method that may intern its constants -/
abbrev own_MetW (l : Launch) (Z : State) (y : MethodName) (bytes : ByteArray) (mx : Nat) (rt : Option FieldType) (ws : List Jvm.Cond) (rm : Room) (as : Array Value) (h0 : Heap) (Q : Option Value → Heap → List Loc → Prop) : Prop :=
  MetFree l y (head1 (Jvm.Cond.code y bytes mx rt :: ws) rm) (fun a U => a = as ∧ Z.WarmedH U.vm ∧ U.heap = h0) (fun _ _ _ _ _ => True) (fun _ U o U' => ∃ v L, o = .returned v ∧ Q v U'.heap L ∧ ReturnedEndW U o U' L rm.cells rm.slots)
theorem own_bodyW {y : MethodName} {bytes : ByteArray} {mx : Nat} {rt : Option FieldType} {ws : List Jvm.Cond} {rm : Room} {as : Array Value} {h0 : Heap} {Q : Option Value → Heap → List Loc → Prop} (hp : plainFor y = true)
    (body : ∀ (p : Program) (e : Env) (s : State) (m : MethodId) (below : List Frame) (meth : Method) (c : Code) (T : State), Stand p l e rm s m as below meth c T [] 0 0 → p.tables.exec = Jvm.exec → c.code = bytes → c.maxLocals = mx → meth.sig.returnType = rt → meth.locks = false → Z.WarmedH s.vm → s.vm.findClass y.cls = some m.cls → meth.name = y.name → T.heap = h0 → s.heap = h0 →
      own_Go p e below (own_KW Q s rm.cells rm.slots) T (entryFrame m as mx)) : own_MetW l Z y bytes mx rt ws rm as h0 Q := by
  refine MetFree.of_bodySF hp hisR ?_
  intro p e s m args below meth c s₁ Bd hml0 hP hK
  obtain ⟨rfl, hZ, hh⟩ := hP
  exact body p e s m below meth c s₁ (Stand.of_body Bd) Bd.exec Bd.bytes hml0 Bd.returns Bd.notSynchronized hZ (findClass_of_methodNamed Bd.named) (name_of_methodNamed Bd.named Bd.method).1 (by rw [← hh, Bd.state]; rfl) hh
theorem own_backW {y : MethodName} {bytes : ByteArray} {mx : Nat} {rt : Option FieldType} {rm : Room} {len W : Nat} {as' : Array Value} {Q : Option Value → Heap → List Loc → Prop}
    (hM : own_MetW l Z y bytes mx rt [] rm as' h Q) (hZH : Z.WarmedH s.vm) (wc : (Jvm.Cond.code y bytes mx rt).before a0 Z = true) (wz : (Jvm.Cond.initialized y.cls).before a0 Z = true) (hf : rm.frames + 1 ≤ R.frames) (hl : W + (mx + 11) + rm.locals ≤ R.locals) :
    BackS l R p e below s args y len W (fun A a => a = as' ∧ A.U.heap = h ∧ A.cells + rm.cells ≤ R.cells ∧ A.slots + rm.slots ≤ R.slots)
      (fun A _ v B => ∃ L, Q v B.U.heap L ∧ B.locs = A.locs ++ L ∧ B.cells = A.cells + rm.cells ∧ B.slots = A.slots + rm.slots) :=
  BackS.of_freeW (bytes := bytes) (maxL := mx) (ret := rt) (E := fun _ _ o t L k n => k = rm.cells ∧ n = rm.slots ∧ ∃ v, o = .returned v ∧ Q v t.heap L) hM hf hl
    (fun m meth c A a Y hp => have hU : Z.Warmed39 A.U.vm := (State.WarmedH.trans hZH Y.warmed).wide
      ⟨by show (Jvm.Cond.and _ .tt).before a A.U = true; rw [Cond.before_and, mvT hU wc]; rfl, mvT hU wc, mvT hU wz, hp.2.2.1, hp.2.2.2⟩)
    (fun m meth c A a g mk Y hp => ⟨hp.1, State.WarmedH.trans hZH Y.warmed, hp.2.1⟩) (fun _ _ _ _ _ _ _ _ _ => trivial)
    (fun _ _ _ _ ⟨v, L, h1, h2, h3⟩ => ⟨L, _, _, h3, rfl, rfl, v, h1, h2⟩)
    (fun m meth c A a g mk v t L k n Y hp _ _ ⟨e1, e2, v', e3, e4⟩ => by cases e3; subst e1 e2; exact ⟨L, e4, rfl, rfl, rfl⟩)
theorem own_wd (X : Stand p l e R s m args below meth c T locs cells slots) : Stand p l e R (s.setVm s.vm) m args below meth c T locs cells slots := by rw [State.setVm_self]; exact X
theorem own_wS (s : State) (k : Nat) : s.Since s.vm k := (State.WarmedH.refl s).since k
theorem own_retVW (X : Stand p l e R (s.setVm vm0) m args below meth c T locs cells slots) (hS : s.Since vm0 k) (hk : k ≤ T.heap.size) (hx : p.tables.exec = Jvm.exec) {Q : Option Value → Heap → List Loc → Prop} {cs ss : Nat} (hlk : meth.locks = false) (hret : meth.sig.returnType = none) (hd : decode c.code pc = .ok (.return_, 1)) (hc : cells ≤ cs) (hs : slots ≤ ss) (hq : Q none T.heap locs) : own_Go p e below (own_KW Q s cs ss) T (mkF m pc Ls []) := by
  obtain ⟨fs, hr, hrun, hended, h1, h2, h3, h4⟩ := X.leaveW hS hk (v := none) (fun _ => rfl) hlk
  exact ⟨_, _, X.returnOut hx hret hd hr, hrun, hended, _, _, rfl, hq, h1, h2, h3, h4.mono hc hs⟩
theorem own_retAW (X : Stand p l e R (s.setVm vm0) m args below meth c T locs cells slots) (hS : s.Since vm0 k) (hk : k ≤ T.heap.size) (hx : p.tables.exec = Jvm.exec) {Q : Option Value → Heap → List Loc → Prop} {cs ss : Nat} {w : Value} {t : FieldType} {rest : List Value} (hlk : meth.locks = false) (hret : meth.sig.returnType = some t) (hd : decode c.code pc = .ok (.areturn, 1)) (ht : t.isReference = true) (hv : w.isRef = true) (hc : cells ≤ cs) (hs : slots ≤ ss) (hq : Q (some w) T.heap locs) : own_Go p e below (own_KW Q s cs ss) T (mkF m pc Ls (w :: rest)) := by
  obtain ⟨fs, hr, hrun, hended, h1, h2, h3, h4⟩ := X.leaveW hS hk (v := some w) (fun q => by rw [hret] at q; cases q) hlk
  exact ⟨_, _, retOut X hx hret (by rcases ref_cases hv with rfl | ⟨a, rfl⟩ <;> cases t <;> first | rfl | cases ht) (Or.inr (Or.inr (Or.inr (Or.inr ⟨rfl, ht, hv⟩)))) hd hr, hrun, hended, _, _, rfl, hq, h1, h2, h3, h4.mono hc hs⟩
theorem own_retZW (X : Stand p l e R (s.setVm vm0) m args below meth c T locs cells slots) (hS : s.Since vm0 k) (hk : k ≤ T.heap.size) (hx : p.tables.exec = Jvm.exec) {Q : Option Value → Heap → List Loc → Prop} {cs ss : Nat} {z : Int32} {rest : List Value} (hlk : meth.locks = false) (hret : meth.sig.returnType = some .boolean) (hd : decode c.code pc = .ok (.ireturn, 1)) (hn : z = 0 ∨ z = 1) (hc : cells ≤ cs) (hs : slots ≤ ss) (hq : Q (some (.int z)) T.heap locs) : own_Go p e below (own_KW Q s cs ss) T (mkF m pc Ls (.int z :: rest)) := by
  obtain ⟨fs, hr, hrun, hended, h1, h2, h3, h4⟩ := X.leaveW hS hk (v := some (.int z)) (fun q => by rw [hret] at q; cases q) hlk
  exact ⟨_, _, retOut X hx hret (by rcases hn with rfl | rfl <;> rfl) (Or.inl ⟨rfl, Or.inr (Or.inl rfl), z, rfl⟩) hd hr, hrun, hended, _, _, rfl, hq, h1, h2, h3, h4.mono hc hs⟩
/-- the constant "" -/
theorem own_ldcE (X : Stand p l e R s m args below meth c T locs cells slots) (hx : p.tables.exec = Jvm.exec) (hZH : Z.WarmedH s.vm) {own : String} {index : Nat} (hown : s.vm.findClass own = some m.cls) (w : (Jvm.Cond.stringLink own index "").before a0 Z = true) (wS : ∀ a ∈ Bundle.stringAtoms, a.before a0 Z = true)
    (eT : T.heap = h) (N : Fr s.heap.size locs) (hkeep : Ext Z.heap s.heap) (hh : Jvm.Lit.constHeld Z own index) (hcw : Jvm.Lit.compactW.before a0 Z = true) (hd : decode c.code pc = .ok (.ldc index, 2)) (hc : cells + 2 ≤ R.cells) (hl : slots + 4 ≤ R.slots) :
    ∃ (a : Addr) (T' : State) (h' : Heap) (k1 : Nat) (b : Addr), Stand p l e R (s.setVm T'.vm) m args below meth c T' locs (cells + 2) (slots + 4) ∧ T'.heap = h' ∧ Ext h h' ∧ s.Since T'.vm k1 ∧ k1 ≤ h'.size ∧ Z.Warmed39 (s.setVm T'.vm).vm ∧ (s.setVm T'.vm).vm.findClass own = some m.cls ∧
      Exa Z h' a "java/lang/String" ∧ Fld Z h' a "java/lang/String" "coder" "B" (.int 0) ∧ Fld Z h' a "java/lang/String" "value" "[B" (.ref b) ∧ own_BA Z h' b 0 (fun _ => 0) ∧ Lit (s.setVm T'.vm) own index a ∧
      ∀ t, Steps p.tables e below (T'.setTop (mkF m (pc + 2) Ls (.ref a :: rest))) t → Steps p.tables e below (T.setTop (mkF m pc Ls rest)) t := by
  have I : IB Z s.vm [] := ⟨#[], by rw [hZH.interned_eq]; simp, fun q hq => by simp at hq⟩
  obtain ⟨a, T', h', k1, b, k, r1, r2, r3, r4, r5, r6, r7, r8, r9, r10, r11, r12, r13, r14, r15, r16⟩ := ldcSVL (own_wd X) hx hZH.wide hown w wS eT (own_wS s h.size) (Nat.le_refl _) N (fun b cl q => hkeep.2 b cl q) I (by simp) hh hcw (vs := []) (z := 0) ⟨by simp, rfl⟩ (by decide) rfl (g := mkF m pc Ls rest) rfl hd (n := 0) (by simp) (by decide) hc hl
  exact ⟨a, T', h', k1, b, r1, r2, r3, r4, r5, r6, r7, r8, r9, r10, own_BA_of r11 rfl (fun i hi => absurd hi (Nat.not_lt_zero _)), r15, r16⟩
/-- a constant whose text isn't looked at -/
theorem own_ldcF (X : Stand p l e R (s.setVm vm0) m args below meth c T locs cells slots) (hx : p.tables.exec = Jvm.exec) (hZ : Z.Warmed39 vm0) {own text : String} {index : Nat} (hown : vm0.findClass own = some m.cls) (w : (Jvm.Cond.stringLink own index text).before a0 Z = true) (wS : ∀ a ∈ Bundle.stringAtoms, a.before a0 Z = true)
    (eT : T.heap = h) (hS : s.Since vm0 k) (hk : k ≤ h.size) (hd : decode c.code pc = .ok (.ldc index, 2)) (n : Nat) (hn : 4 * text.toList.length ≤ n) (hbig : n ≤ 536870912) (hc : cells + 2 ≤ R.cells) (hl : slots + (n + 4) ≤ R.slots) :
    ∃ (a : Addr) (T' : State) (h' : Heap) (k1 : Nat), Stand p l e R (s.setVm T'.vm) m args below meth c T' locs (cells + 2) (slots + (n + 4)) ∧ T'.heap = h' ∧ Ext h h' ∧ s.Since T'.vm k1 ∧ k1 ≤ h'.size ∧ Z.Warmed39 (s.setVm T'.vm).vm ∧ (s.setVm T'.vm).vm.findClass own = some m.cls ∧
      ∀ t, Steps p.tables e below (T'.setTop (mkF m (pc + 2) Ls (.ref a :: rest))) t → Steps p.tables e below (T.setTop (mkF m pc Ls rest)) t :=
  ldcS X hx hZ hown w wS eT hS hk (g := mkF m pc Ls rest) rfl hd hn hbig hc hl
theorem own_callSW (X : Stand p l e R s m args below meth c T locs cells slots) (hx : p.tables.exec = Jvm.exec) (hZH : Z.WarmedH s.vm) {own : String} {index : Nat} {y : MethodName} {bytes : ByteArray} {mx : Nat} {rt : Option FieldType} {rm : Room} {argsL rest : List Value} {Q : Option Value → Heap → List Loc → Prop}
    (hown : s.vm.findClass own = some m.cls) (w1 : (Jvm.Cond.methodLink own index y).before a0 Z = true) (w2 : (Jvm.Cond.static y).before a0 Z = true) (w3 : (Jvm.Cond.initialized y.cls).before a0 Z = true) (w4 : (Jvm.Cond.code y bytes mx rt).before a0 Z = true) (hy : y.cls ≠ "java/lang/invoke/MethodHandle" ∧ y.cls ≠ "java/lang/invoke/VarHandle")
    (eT : T.heap = h) (hM : own_MetW l Z y bytes mx rt [] rm argsL.toArray h Q) (W : Nat) (hf : rm.frames + 1 ≤ R.frames) (hl : W + (mx + 11) + rm.locals ≤ R.locals) (hcl : cells + rm.cells ≤ R.cells) (hsl : slots + rm.slots ≤ R.slots) (hsz : Ls.size = c.maxLocals) (hlen : ∀ sig, parseMethodDescriptor y.desc = some sig → argsL.length = sig.parameters.length)
    (hst : st = argsL.reverse ++ rest) (hW : (rest.map fun v => v.category).sum ≤ W) (hd : decode c.code pc = .ok (.invokestatic index, 3)) :
    ∃ v T' L, Stand p l e R (s.setVm T'.vm) m args below meth c T' (locs ++ L) (cells + rm.cells) (slots + rm.slots) ∧ Q v T'.heap L ∧ s.Since T'.vm T'.heap.size ∧ Z.Warmed39 (s.setVm T'.vm).vm ∧ (s.setVm T'.vm).vm.findClass own = some m.cls ∧ ∀ t, Steps p.tables e below (T'.setTop (mkF m (pc + 3) Ls (v.toList ++ rest))) t → Steps p.tables e below (T.setTop (mkF m pc Ls st)) t := by
  have hZ := hZH.wide
  obtain ⟨v, vm1, ⟨T', L', k', n'⟩, -, X', hS, -, ⟨L, hQ, l1, l2, l3⟩, stp⟩ := callSS X hx (y := y) hown (mvT hZ w1) (mvT hZ w2) (mvT hZ w3) (mvT hZ w4) hy (own_backW (W := W) hM hZH w4 w3 hf hl) (g := mkF m pc Ls st) rfl hsz (argsL := argsL) (rest := rest) hlen hst (by show 2 * 0 + _ ≤ _; omega) hd (fun _ _ => ⟨rfl, eT, hcl, hsl⟩)
  dsimp only [Pt.U, Pt.locs, Pt.cells, Pt.slots] at X' l1 l2 l3 stp hQ hS
  subst l1 l2 l3
  exact ⟨v, T', L, X', hQ, hS, State.Warmed39.trans (t := s) hZ hS.1, by rw [show (s.setVm T'.vm).vm = T'.vm from rfl, hS.1.alike.findClass]; exact hown, fun t k => stp.trans k⟩
theorem own_callCW (X : Stand p l e R s m args below meth c T locs cells slots) (hx : p.tables.exec = Jvm.exec) (hZH : Z.WarmedH s.vm) {own : String} {index : Nat} {y : MethodName} {bytes : ByteArray} {mx : Nat} {rm : Room} {b : Addr} {argsL rest : List Value} {Q : Option Value → Heap → List Loc → Prop}
    (hy1 : y.name = "<init>") (hown : s.vm.findClass own = some m.cls) (w1 : (Jvm.Cond.methodLink own index y).before a0 Z = true) (w4 : (Jvm.Cond.instanceMethod y).before a0 Z = true) (w5 : (Jvm.Cond.code y bytes mx none).before a0 Z = true) (w6 : (Jvm.Cond.initialized y.cls).before a0 Z = true) (hy : y.cls ≠ "java/lang/invoke/MethodHandle" ∧ y.cls ≠ "java/lang/invoke/VarHandle")
    (eT : T.heap = h) (hM : own_MetW l Z y bytes mx none [] rm (.ref b :: argsL).toArray h Q) (W : Nat) (hf : rm.frames + 1 ≤ R.frames) (hl : W + (mx + 11) + rm.locals ≤ R.locals) (hcl : cells + rm.cells ≤ R.cells) (hsl : slots + rm.slots ≤ R.slots) (hsz : Ls.size = c.maxLocals) (hlen : ∀ sig, parseMethodDescriptor y.desc = some sig → argsL.length = sig.parameters.length)
    (hst : st = argsL.reverse ++ .ref b :: rest) (hW : (rest.map fun v => v.category).sum ≤ W) (hd : decode c.code pc = .ok (.invokespecial index, 3)) :
    ∃ v T' L, Stand p l e R (s.setVm T'.vm) m args below meth c T' (locs ++ L) (cells + rm.cells) (slots + rm.slots) ∧ Q v T'.heap L ∧ s.Since T'.vm T'.heap.size ∧ Z.Warmed39 (s.setVm T'.vm).vm ∧ (s.setVm T'.vm).vm.findClass own = some m.cls ∧ ∀ t, Steps p.tables e below (T'.setTop (mkF m (pc + 3) Ls (v.toList ++ rest))) t → Steps p.tables e below (T.setTop (mkF m pc Ls st)) t := by
  have hZ := hZH.wide
  obtain ⟨v, vm1, ⟨T', L', k', n'⟩, -, X', hS, -, ⟨L, hQ, l1, l2, l3⟩, stp⟩ := X.specialBackS hx (y := y) hy1 hown (mvT hZ w1) (mvT hZ w4) (mvT hZ w5) hy (own_backW (W := W) hM hZH w5 w6 hf hl) (g := mkF m pc Ls st) rfl hsz (Steps.refl _) (a := b) (argsL := argsL) (rest := rest) hlen hst (by show 2 * 0 + _ ≤ _; omega) hd (fun _ _ => ⟨rfl, eT, hcl, hsl⟩)
  dsimp only [Pt.U, Pt.locs, Pt.cells, Pt.slots] at X' l1 l2 l3 stp hQ hS
  subst l1 l2 l3
  exact ⟨v, T', L, X', hQ, hS, State.Warmed39.trans (t := s) hZ hS.1, by rw [show (s.setVm T'.vm).vm = T'.vm from rfl, hS.1.alike.findClass]; exact hown, fun t k => stp.trans k⟩
end OwnWide
section OwnU
theorem own_shl1 (i : Nat) : (Int32.ofNat i) <<< ((1 : Int32) &&& 31) = Int32.ofNat (2 * i) := by
  apply Int32.toBitVec_inj.mp
  apply BitVec.eq_of_toNat_eq
  show ((BitVec.ofNat 32 i) <<< 1).toNat = (BitVec.ofNat 32 (2 * i)).toNat
  rw [BitVec.toNat_shiftLeft, BitVec.toNat_ofNat, BitVec.toNat_ofNat, Nat.shiftLeft_eq]
  omega
theorem own_shr0 (x : Int32) : x >>> ((0 : Int32) &&& 31) = x := by
  apply Int32.toBitVec_inj.mp
  show BitVec.sshiftRight x.toBitVec 0 = x.toBitVec
  simp
theorem own_shr1 : ∀ n : Nat, n ≤ 6 → (Int32.ofNat (2 * n)) >>> ((1 : Int32) &&& 31) = Int32.ofNat n
  | 0, _ => by decide
  | 1, _ => by decide
  | 2, _ => by decide
  | 3, _ => by decide
  | 4, _ => by decide
  | 5, _ => by decide
  | 6, _ => by decide
  | n + 7, h => absurd h (by omega)
def own_cf (n k : Nat) : Int32 := ((((Int32.ofNat n) - (Int32.ofNat k)).toUInt32 >>> ((31 : Int32) &&& 31).toUInt32).toInt32).toInt8.toInt32
theorem own_cf0 (n : Nat) : own_cf n n = (0 : Int32) := by
  unfold own_cf
  rw [Int32.sub_self]; decide
theorem own_cf1 : ∀ n : Nat, 0 < n → n ≤ 6 → own_cf n (2 * n) = (1 : Int32)
  | 1, _, _ => by decide
  | 2, _, _ => by decide
  | 3, _, _ => by decide
  | 4, _, _ => by decide
  | 5, _, _ => by decide
  | 6, _, _ => by decide
  | n + 7, _, h => absurd h (by omega)
theorem own_big {n : Nat} (h : n ≤ 6) : Int32.ofNat n < (1073741823 : Int32) := by
  have e1 : (1073741823 : Int32).toInt = 1073741823 := rfl
  rw [Int32.lt_iff_toInt_lt, own_oInt (by omega), e1]; omega
theorem own_gc {f : Nat → Int32} {i : Nat} (h : own_isC (f i)) : ((((own_by f) (2 * i)) &&& (255 : Int32)) <<< ((0 : Int32) &&& 31) ||| (((own_by f) (2 * i + 1)) &&& (255 : Int32)) <<< ((8 : Int32) &&& 31)).toUInt32.toUInt16.toUInt32.toInt32 = f i := by
  have e0 : own_by f (2 * i) = own_b0 (f i) := by
    unfold own_by
    rw [if_pos (by omega), show 2 * i / 2 = i by omega]
  have e1 : own_by f (2 * i + 1) = own_b1 (f i) := by
    unfold own_by
    rw [if_neg (by omega), show (2 * i + 1) / 2 = i by omega]
  rw [e0, e1]
  exact own_get h
theorem own_byS {f gg : Nat → Int32} {i : Nat} (hg : ∀ x, x < 2 * i → gg x = own_by f x) : ∀ x, x < 2 * (i + 1) → (fun (x : Nat) => if x = (2 * i + 1) then own_b1 (f i) else (fun (x : Nat) => if x = (2 * i) then own_b0 (f i) else gg x) x) x = own_by f x := by
  intro x hx
  show (if x = (2 * i + 1) then own_b1 (f i) else if x = (2 * i) then own_b0 (f i) else gg x) = _
  by_cases q : x = 2 * i + 1
  · rw [if_pos q, q]; unfold own_by; rw [if_neg (by omega), show (2 * i + 1) / 2 = i by omega]
  · rw [if_neg q]
    by_cases q' : x = 2 * i
    · rw [if_pos q', q']; unfold own_by; rw [if_pos (by omega), show 2 * i / 2 = i by omega]
    · rw [if_neg q']; exact hg x (by omega)
theorem own_upC {f : Nat → Int32} {i : Nat} {y : Int32} (hf : ∀ x, own_isC (f x)) (hy : own_isC y) : ∀ x, own_isC ((fun (x : Nat) => if x = i then y else f x) x) := fun x => by
  show own_isC (if x = i then y else f x)
  split
  · exact hy
  · exact hf x
theorem own_c0 : own_isC (0 : Int32) := ⟨by decide, by decide⟩
theorem own_zC : ∀ x : Nat, own_isC ((fun (_ : Nat) => (0 : Int32)) x) := fun _ => own_c0
/-- a String at a, of n chars, the ones of f -/
def own_STR (Z : State) (h : Heap) (a : Addr) (n : Nat) (f : Nat → Int32) : Prop := ∃ vb : Addr, Exa Z h a "java/lang/String" ∧ Fld Z h a "java/lang/String" "value" "[B" (.ref vb) ∧
  ((Fld Z h a "java/lang/String" "coder" "B" (.int (0 : Int32)) ∧ (∃ gg, own_BA Z h vb n gg) ∧ ∀ x, x < n → ¬ (255 : Int32) < f x) ∨ (Fld Z h a "java/lang/String" "coder" "B" (.int (1 : Int32)) ∧ own_BA Z h vb (2 * n) (own_by f) ∧ 0 < n))
theorem own_STR.ext {Z : State} {h h' : Heap} {a : Addr} {n : Nat} {f : Nat → Int32} (S : own_STR Z h a n f) (E : Ext h h') : own_STR Z h' a n f := by
  obtain ⟨vb, x, v, ⟨q1, ⟨gg, q2⟩, q3⟩ | ⟨q1, q2, q3⟩⟩ := S
  · exact ⟨vb, x.ext E, v.ext E, Or.inl ⟨q1.ext E, ⟨gg, q2.ext E⟩, q3⟩⟩
  · exact ⟨vb, x.ext E, v.ext E, Or.inr ⟨q1.ext E, q2.ext E, q3⟩⟩
theorem own_pcLe {f : Nat → Int32} {q q' : Nat} (h : own_pc f q q') : q' ≤ q + 2 := by rcases h with ⟨rfl, -⟩ | ⟨rfl, -, -⟩ <;> omega
end OwnU
theorem own_and3 (x : Int32) : x &&& (3 : Int32) = 0 ∨ x &&& (3 : Int32) = 1 ∨ x &&& (3 : Int32) = 2 ∨ x &&& (3 : Int32) = 3 := by
  have e : (x &&& (3 : Int32)).toBitVec.toNat = x.toBitVec.toNat % 4 := by
    show (x.toBitVec &&& 3#32).toNat = _
    rw [BitVec.toNat_and]
    exact Nat.and_two_pow_sub_one_eq_mod x.toBitVec.toNat 2
  have h : x.toBitVec.toNat % 4 < 4 := Nat.mod_lt _ (by decide)
  have k : ∀ z : Int32, (x &&& (3 : Int32)).toBitVec.toNat = z.toBitVec.toNat → x &&& (3 : Int32) = z := fun z q => Int32.toBitVec_inj.mp (BitVec.eq_of_toNat_eq q)
  rw [e] at k
  have c : x.toBitVec.toNat % 4 = 0 ∨ x.toBitVec.toNat % 4 = 1 ∨ x.toBitVec.toNat % 4 = 2 ∨ x.toBitVec.toNat % 4 = 3 := by omega
  rcases c with q | q | q | q
  · exact Or.inl (k 0 q)
  · exact Or.inr (Or.inl (k 1 q))
  · exact Or.inr (Or.inr (Or.inl (k 2 q)))
  · exact Or.inr (Or.inr (Or.inr (k 3 q)))
theorem own_rs0 : own_rs (fun (_ : Nat) => (0 : Int32)) 0 0 0 := rfl
theorem own_ite0 {P : Prop} [Decidable P] : (if P then (1 : Int32) else 0) = 0 ↔ ¬ P := by by_cases h : P <;> simp [h]
theorem own_dec {k : Nat} (h1 : 1 ≤ k) (h2 : k ≤ 6) : (Int32.ofNat k) + (-1 : Int32) = Int32.ofNat (k - 1) := by
  have e1 : (-1 : Int32).toInt = -1 := rfl
  rw [← Int32.toInt_inj, Int32.toInt_add, own_oInt (by omega), own_oInt (by omega), e1, Int.bmod_eq_of_le (by omega) (by omega)]; omega
theorem own_cpEnd {f : Nat → Int32} {n r i k K : Nat} (hrs : own_rs f n r i) (hcr : k + r = K + (n - i)) (hin : i ≤ n) (h1 : n - 1 ≤ i) (h2 : 0 < n) : k = K := by
  cases r with
  | zero => have q : i = n := hrs; omega
  | succ r =>
    obtain ⟨hi, h | h⟩ := hrs
    · have := own_rs_le _ _ h.2; omega
    · have := h.2.1; omega
theorem own_strIn : ∀ a ∈ Bundle.stringAtoms, a ∈ tables_1 := by decide +kernel
theorem own_str {Z : State} {a0 : Array Value} (hw : ∀ d ∈ tables_1, d.before a0 Z = true) : ∀ a ∈ Bundle.stringAtoms, a.before a0 Z = true := fun a ha => hw a (own_strIn a ha)
theorem pn_java_lang_Character : plainName "java/lang/Character" = true := by first | (simp [plainName, overriddenIn]; done) | decide +kernel
theorem ef_24 (m : MethodId) (x0 : Int32) : entryFrame m #[(.int x0)] 1 = mkF m 0 #[.val (.int x0)] [] := by first | (simp [entryFrame, mkF, argsToLocals, Value.category]; done) | rfl
theorem d24_0 : decode jdk_89_method_14_code 0 = .ok (.iload_n 0, 1) := by decide +kernel
theorem d24_1 : decode jdk_89_method_14_code 1 = .ok (.ldc 75, 2) := by decide +kernel
theorem d24_3 : decode jdk_89_method_14_code 3 = .ok (.if_icmp .lt 13, 3) := by decide +kernel
theorem d24_16 : decode jdk_89_method_14_code 16 = .ok (.iconst 0, 1) := by decide +kernel
theorem d24_17 : decode jdk_89_method_14_code 17 = .ok (.ireturn, 1) := by decide +kernel
theorem d24_6 : decode jdk_89_method_14_code 6 = .ok (.iload_n 0, 1) := by decide +kernel
theorem d24_7 : decode jdk_89_method_14_code 7 = .ok (.ldc 76, 2) := by decide +kernel
theorem d24_9 : decode jdk_89_method_14_code 9 = .ok (.if_icmp .ge 7, 3) := by decide +kernel
theorem d24_12 : decode jdk_89_method_14_code 12 = .ok (.iconst 1, 1) := by decide +kernel
theorem d24_13 : decode jdk_89_method_14_code 13 = .ok (.goto 4, 3) := by decide +kernel
theorem ef_25 (m : MethodId) (x0 : Int32) : entryFrame m #[(.int x0)] 1 = mkF m 0 #[.val (.int x0)] [] := by first | (simp [entryFrame, mkF, argsToLocals, Value.category]; done) | rfl
theorem d25_0 : decode jdk_89_method_15_code 0 = .ok (.iload_n 0, 1) := by decide +kernel
theorem d25_1 : decode jdk_89_method_15_code 1 = .ok (.ldc 76, 2) := by decide +kernel
theorem d25_3 : decode jdk_89_method_15_code 3 = .ok (.if_icmp .lt 13, 3) := by decide +kernel
theorem d25_16 : decode jdk_89_method_15_code 16 = .ok (.iconst 0, 1) := by decide +kernel
theorem d25_17 : decode jdk_89_method_15_code 17 = .ok (.ireturn, 1) := by decide +kernel
theorem d25_6 : decode jdk_89_method_15_code 6 = .ok (.iload_n 0, 1) := by decide +kernel
theorem d25_7 : decode jdk_89_method_15_code 7 = .ok (.ldc 77, 2) := by decide +kernel
theorem d25_9 : decode jdk_89_method_15_code 9 = .ok (.if_icmp .ge 7, 3) := by decide +kernel
theorem d25_12 : decode jdk_89_method_15_code 12 = .ok (.iconst 1, 1) := by decide +kernel
theorem d25_13 : decode jdk_89_method_15_code 13 = .ok (.goto 4, 3) := by decide +kernel
theorem pn_java_lang_StringUTF16 : plainName "java/lang/StringUTF16" = true := by first | (simp [plainName, overriddenIn]; done) | decide +kernel
theorem ef_21 (m : MethodId) (x0 : Addr) (x1 : Int32) : entryFrame m #[(.ref x0), (.int x1)] 2 = mkF m 0 #[.val (.ref x0), .val (.int x1)] [] := by first | (simp [entryFrame, mkF, argsToLocals, Value.category]; done) | rfl
theorem d21_0 : decode jdk_52_method_5_code 0 = .ok (.getstatic 44, 3) := by decide +kernel
theorem d21_3 : decode jdk_52_method_5_code 3 = .ok (.ifCond .ne 25, 3) := by decide +kernel
theorem d21_28 : decode jdk_52_method_5_code 28 = .ok (.iload_n 1, 1) := by decide +kernel
theorem d21_29 : decode jdk_52_method_5_code 29 = .ok (.iconst 1, 1) := by decide +kernel
theorem d21_30 : decode jdk_52_method_5_code 30 = .ok (.ishl, 1) := by decide +kernel
theorem d21_31 : decode jdk_52_method_5_code 31 = .ok (.istore_n 1, 1) := by decide +kernel
theorem d21_32 : decode jdk_52_method_5_code 32 = .ok (.aload_n 0, 1) := by decide +kernel
theorem d21_33 : decode jdk_52_method_5_code 33 = .ok (.iload_n 1, 1) := by decide +kernel
theorem d21_34 : decode jdk_52_method_5_code 34 = .ok (.iinc 1 1, 3) := by decide +kernel
theorem d21_37 : decode jdk_52_method_5_code 37 = .ok (.baload, 1) := by decide +kernel
theorem d21_38 : decode jdk_52_method_5_code 38 = .ok (.sipush 255, 3) := by decide +kernel
theorem d21_41 : decode jdk_52_method_5_code 41 = .ok (.iand, 1) := by decide +kernel
theorem d21_42 : decode jdk_52_method_5_code 42 = .ok (.getstatic 59, 3) := by decide +kernel
theorem d21_45 : decode jdk_52_method_5_code 45 = .ok (.ishl, 1) := by decide +kernel
theorem d21_46 : decode jdk_52_method_5_code 46 = .ok (.aload_n 0, 1) := by decide +kernel
theorem d21_47 : decode jdk_52_method_5_code 47 = .ok (.iload_n 1, 1) := by decide +kernel
theorem d21_48 : decode jdk_52_method_5_code 48 = .ok (.baload, 1) := by decide +kernel
theorem d21_49 : decode jdk_52_method_5_code 49 = .ok (.sipush 255, 3) := by decide +kernel
theorem d21_52 : decode jdk_52_method_5_code 52 = .ok (.iand, 1) := by decide +kernel
theorem d21_53 : decode jdk_52_method_5_code 53 = .ok (.getstatic 63, 3) := by decide +kernel
theorem d21_56 : decode jdk_52_method_5_code 56 = .ok (.ishl, 1) := by decide +kernel
theorem d21_57 : decode jdk_52_method_5_code 57 = .ok (.ior, 1) := by decide +kernel
theorem d21_58 : decode jdk_52_method_5_code 58 = .ok (.i2c, 1) := by decide +kernel
theorem d21_59 : decode jdk_52_method_5_code 59 = .ok (.ireturn, 1) := by decide +kernel
theorem ef_20 (m : MethodId) (x0 : Addr) (x1 : Int32) (x2 : Int32) : entryFrame m #[(.ref x0), (.int x1), (.int x2)] 3 = mkF m 0 #[.val (.ref x0), .val (.int x1), .val (.int x2)] [] := by first | (simp [entryFrame, mkF, argsToLocals, Value.category]; done) | rfl
theorem d20_0 : decode jdk_52_method_4_code 0 = .ok (.getstatic 44, 3) := by decide +kernel
theorem d20_3 : decode jdk_52_method_4_code 3 = .ok (.ifCond .ne 25, 3) := by decide +kernel
theorem d20_28 : decode jdk_52_method_4_code 28 = .ok (.iload_n 1, 1) := by decide +kernel
theorem d20_29 : decode jdk_52_method_4_code 29 = .ok (.iconst 1, 1) := by decide +kernel
theorem d20_30 : decode jdk_52_method_4_code 30 = .ok (.ishl, 1) := by decide +kernel
theorem d20_31 : decode jdk_52_method_4_code 31 = .ok (.istore_n 1, 1) := by decide +kernel
theorem d20_32 : decode jdk_52_method_4_code 32 = .ok (.aload_n 0, 1) := by decide +kernel
theorem d20_33 : decode jdk_52_method_4_code 33 = .ok (.iload_n 1, 1) := by decide +kernel
theorem d20_34 : decode jdk_52_method_4_code 34 = .ok (.iinc 1 1, 3) := by decide +kernel
theorem d20_37 : decode jdk_52_method_4_code 37 = .ok (.iload_n 2, 1) := by decide +kernel
theorem d20_38 : decode jdk_52_method_4_code 38 = .ok (.getstatic 59, 3) := by decide +kernel
theorem d20_41 : decode jdk_52_method_4_code 41 = .ok (.ishr, 1) := by decide +kernel
theorem d20_42 : decode jdk_52_method_4_code 42 = .ok (.i2b, 1) := by decide +kernel
theorem d20_43 : decode jdk_52_method_4_code 43 = .ok (.bastore, 1) := by decide +kernel
theorem d20_44 : decode jdk_52_method_4_code 44 = .ok (.aload_n 0, 1) := by decide +kernel
theorem d20_45 : decode jdk_52_method_4_code 45 = .ok (.iload_n 1, 1) := by decide +kernel
theorem d20_46 : decode jdk_52_method_4_code 46 = .ok (.iload_n 2, 1) := by decide +kernel
theorem d20_47 : decode jdk_52_method_4_code 47 = .ok (.getstatic 63, 3) := by decide +kernel
theorem d20_50 : decode jdk_52_method_4_code 50 = .ok (.ishr, 1) := by decide +kernel
theorem d20_51 : decode jdk_52_method_4_code 51 = .ok (.i2b, 1) := by decide +kernel
theorem d20_52 : decode jdk_52_method_4_code 52 = .ok (.bastore, 1) := by decide +kernel
theorem d20_53 : decode jdk_52_method_4_code 53 = .ok (.return_, 1) := by decide +kernel
theorem ef_19 (m : MethodId) (x0 : Int32) : entryFrame m #[(.int x0)] 1 = mkF m 0 #[.val (.int x0)] [] := by first | (simp [entryFrame, mkF, argsToLocals, Value.category]; done) | rfl
theorem d19_0 : decode jdk_52_method_3_code 0 = .ok (.iload_n 0, 1) := by decide +kernel
theorem d19_1 : decode jdk_52_method_3_code 1 = .ok (.ifCond .ge 11, 3) := by decide +kernel
theorem d19_12 : decode jdk_52_method_3_code 12 = .ok (.iload_n 0, 1) := by decide +kernel
theorem d19_13 : decode jdk_52_method_3_code 13 = .ok (.ldc 20, 2) := by decide +kernel
theorem d19_15 : decode jdk_52_method_3_code 15 = .ok (.if_icmp .lt 40, 3) := by decide +kernel
theorem d19_55 : decode jdk_52_method_3_code 55 = .ok (.iload_n 0, 1) := by decide +kernel
theorem d19_56 : decode jdk_52_method_3_code 56 = .ok (.iconst 1, 1) := by decide +kernel
theorem d19_57 : decode jdk_52_method_3_code 57 = .ok (.ishl, 1) := by decide +kernel
theorem d19_58 : decode jdk_52_method_3_code 58 = .ok (.ireturn, 1) := by decide +kernel
theorem ef_18 (m : MethodId) (x0 : Int32) : entryFrame m #[(.int x0)] 1 = mkF m 0 #[.val (.int x0)] [] := by first | (simp [entryFrame, mkF, argsToLocals, Value.category]; done) | rfl
theorem d18_0 : decode jdk_52_method_2_code 0 = .ok (.iload_n 0, 1) := by decide +kernel
theorem d18_1 : decode jdk_52_method_2_code 1 = .ok (.invokestatic 11, 3) := by decide +kernel
theorem pd_5 : parseMethodDescriptor "(I)I" = some ⟨[.int], some .int⟩ := by decide +kernel
theorem d18_4 : decode jdk_52_method_2_code 4 = .ok (.newarray .byte, 2) := by decide +kernel
theorem d18_6 : decode jdk_52_method_2_code 6 = .ok (.areturn, 1) := by decide +kernel
theorem ef_17 (m : MethodId) (x0 : Addr) (x1 : Int32) (x2 : Int32) : entryFrame m #[(.ref x0), (.int x1), (.int x2)] 5 = mkF m 0 #[.val (.ref x0), .val (.int x1), .val (.int x2), .unset, .unset] [] := by first | (simp [entryFrame, mkF, argsToLocals, Value.category]; done) | rfl
theorem d17_0 : decode jdk_52_method_14_code 0 = .ok (.iload_n 2, 1) := by decide +kernel
theorem d17_1 : decode jdk_52_method_14_code 1 = .ok (.invokestatic 107, 3) := by decide +kernel
theorem pd_6 : parseMethodDescriptor "(I)[B" = some ⟨[.int], some (.array .byte)⟩ := by decide +kernel
theorem d17_4 : decode jdk_52_method_14_code 4 = .ok (.astore_n 3, 1) := by decide +kernel
theorem d17_5 : decode jdk_52_method_14_code 5 = .ok (.iconst 0, 1) := by decide +kernel
theorem d17_6 : decode jdk_52_method_14_code 6 = .ok (.istore 4, 2) := by decide +kernel
theorem d17_8 : decode jdk_52_method_14_code 8 = .ok (.iload 4, 2) := by decide +kernel
theorem d17_10 : decode jdk_52_method_14_code 10 = .ok (.iload_n 2, 1) := by decide +kernel
theorem d17_11 : decode jdk_52_method_14_code 11 = .ok (.if_icmp .ge 21, 3) := by decide +kernel
theorem d17_32 : decode jdk_52_method_14_code 32 = .ok (.aload_n 3, 1) := by decide +kernel
theorem d17_33 : decode jdk_52_method_14_code 33 = .ok (.areturn, 1) := by decide +kernel
theorem d17_14 : decode jdk_52_method_14_code 14 = .ok (.aload_n 3, 1) := by decide +kernel
theorem d17_15 : decode jdk_52_method_14_code 15 = .ok (.iload 4, 2) := by decide +kernel
theorem d17_17 : decode jdk_52_method_14_code 17 = .ok (.aload_n 0, 1) := by decide +kernel
theorem d17_18 : decode jdk_52_method_14_code 18 = .ok (.iload_n 1, 1) := by decide +kernel
theorem d17_19 : decode jdk_52_method_14_code 19 = .ok (.caload, 1) := by decide +kernel
theorem d17_20 : decode jdk_52_method_14_code 20 = .ok (.invokestatic 111, 3) := by decide +kernel
theorem pd_15 : parseMethodDescriptor "([BII)V" = some ⟨[(.array .byte), .int, .int], none⟩ := by decide +kernel
theorem d17_23 : decode jdk_52_method_14_code 23 = .ok (.iinc 1 1, 3) := by decide +kernel
theorem d17_26 : decode jdk_52_method_14_code 26 = .ok (.iinc 4 1, 3) := by decide +kernel
theorem d17_29 : decode jdk_52_method_14_code 29 = .ok (.goto (-21), 3) := by decide +kernel
theorem ef_15 (m : MethodId) (x0 : Addr) (x1 : Int32) (x2 : Addr) (x3 : Int32) (x4 : Int32) : entryFrame m #[(.ref x0), (.int x1), (.ref x2), (.int x3), (.int x4)] 7 = mkF m 0 #[.val (.ref x0), .val (.int x1), .val (.ref x2), .val (.int x3), .val (.int x4), .unset, .unset] [] := by first | (simp [entryFrame, mkF, argsToLocals, Value.category]; done) | rfl
theorem d15_0 : decode jdk_52_method_21_code 0 = .ok (.iconst 0, 1) := by decide +kernel
theorem d15_1 : decode jdk_52_method_21_code 1 = .ok (.istore 5, 2) := by decide +kernel
theorem d15_3 : decode jdk_52_method_21_code 3 = .ok (.iload 5, 2) := by decide +kernel
theorem d15_5 : decode jdk_52_method_21_code 5 = .ok (.iload 4, 2) := by decide +kernel
theorem d15_7 : decode jdk_52_method_21_code 7 = .ok (.if_icmp .ge 37, 3) := by decide +kernel
theorem d15_44 : decode jdk_52_method_21_code 44 = .ok (.iload 4, 2) := by decide +kernel
theorem d15_46 : decode jdk_52_method_21_code 46 = .ok (.ireturn, 1) := by decide +kernel
theorem d15_10 : decode jdk_52_method_21_code 10 = .ok (.aload_n 0, 1) := by decide +kernel
theorem d15_11 : decode jdk_52_method_21_code 11 = .ok (.iload_n 1, 1) := by decide +kernel
theorem d15_12 : decode jdk_52_method_21_code 12 = .ok (.caload, 1) := by decide +kernel
theorem d15_13 : decode jdk_52_method_21_code 13 = .ok (.istore 6, 2) := by decide +kernel
theorem d15_15 : decode jdk_52_method_21_code 15 = .ok (.iload 6, 2) := by decide +kernel
theorem d15_17 : decode jdk_52_method_21_code 17 = .ok (.sipush 255, 3) := by decide +kernel
theorem d15_20 : decode jdk_52_method_21_code 20 = .ok (.if_icmp .le 6, 3) := by decide +kernel
theorem d15_23 : decode jdk_52_method_21_code 23 = .ok (.iload 5, 2) := by decide +kernel
theorem d15_25 : decode jdk_52_method_21_code 25 = .ok (.ireturn, 1) := by decide +kernel
theorem d15_26 : decode jdk_52_method_21_code 26 = .ok (.aload_n 2, 1) := by decide +kernel
theorem d15_27 : decode jdk_52_method_21_code 27 = .ok (.iload_n 3, 1) := by decide +kernel
theorem d15_28 : decode jdk_52_method_21_code 28 = .ok (.iload 6, 2) := by decide +kernel
theorem d15_30 : decode jdk_52_method_21_code 30 = .ok (.i2b, 1) := by decide +kernel
theorem d15_31 : decode jdk_52_method_21_code 31 = .ok (.bastore, 1) := by decide +kernel
theorem d15_32 : decode jdk_52_method_21_code 32 = .ok (.iinc 1 1, 3) := by decide +kernel
theorem d15_35 : decode jdk_52_method_21_code 35 = .ok (.iinc 3 1, 3) := by decide +kernel
theorem d15_38 : decode jdk_52_method_21_code 38 = .ok (.iinc 5 1, 3) := by decide +kernel
theorem d15_41 : decode jdk_52_method_21_code 41 = .ok (.goto (-38), 3) := by decide +kernel
theorem ef_16 (m : MethodId) (x0 : Addr) (x1 : Int32) : entryFrame m #[(.ref x0), (.int x1)] 2 = mkF m 0 #[.val (.ref x0), .val (.int x1)] [] := by first | (simp [entryFrame, mkF, argsToLocals, Value.category]; done) | rfl
theorem d16_0 : decode jdk_52_method_15_code 0 = .ok (.iload_n 1, 1) := by decide +kernel
theorem d16_1 : decode jdk_52_method_15_code 1 = .ok (.aload_n 0, 1) := by decide +kernel
theorem d16_2 : decode jdk_52_method_15_code 2 = .ok (.arraylength, 1) := by decide +kernel
theorem d16_3 : decode jdk_52_method_15_code 3 = .ok (.isub, 1) := by decide +kernel
theorem d16_4 : decode jdk_52_method_15_code 4 = .ok (.bipush 31, 2) := by decide +kernel
theorem d16_6 : decode jdk_52_method_15_code 6 = .ok (.iushr, 1) := by decide +kernel
theorem d16_7 : decode jdk_52_method_15_code 7 = .ok (.i2b, 1) := by decide +kernel
theorem d16_8 : decode jdk_52_method_15_code 8 = .ok (.ireturn, 1) := by decide +kernel
theorem ef_14 (m : MethodId) (x0 : Addr) (x1 : Int32) (x2 : Int32) : entryFrame m #[(.ref x0), (.int x1), (.int x2)] 6 = mkF m 0 #[.val (.ref x0), .val (.int x1), .val (.int x2), .unset, .unset, .unset] [] := by first | (simp [entryFrame, mkF, argsToLocals, Value.category]; done) | rfl
theorem d14_0 : decode jdk_52_method_16_code 0 = .ok (.iload_n 2, 1) := by decide +kernel
theorem d14_1 : decode jdk_52_method_16_code 1 = .ok (.newarray .byte, 2) := by decide +kernel
theorem d14_3 : decode jdk_52_method_16_code 3 = .ok (.astore_n 3, 1) := by decide +kernel
theorem d14_4 : decode jdk_52_method_16_code 4 = .ok (.aload_n 0, 1) := by decide +kernel
theorem d14_5 : decode jdk_52_method_16_code 5 = .ok (.iload_n 1, 1) := by decide +kernel
theorem d14_6 : decode jdk_52_method_16_code 6 = .ok (.aload_n 3, 1) := by decide +kernel
theorem d14_7 : decode jdk_52_method_16_code 7 = .ok (.iconst 0, 1) := by decide +kernel
theorem d14_8 : decode jdk_52_method_16_code 8 = .ok (.iload_n 2, 1) := by decide +kernel
theorem d14_9 : decode jdk_52_method_16_code 9 = .ok (.invokestatic 115, 3) := by decide +kernel
theorem pd_22 : parseMethodDescriptor "([CI[BII)I" = some ⟨[(.array .char), .int, (.array .byte), .int, .int], some .int⟩ := by decide +kernel
theorem d14_12 : decode jdk_52_method_16_code 12 = .ok (.istore 4, 2) := by decide +kernel
theorem d14_14 : decode jdk_52_method_16_code 14 = .ok (.iload 4, 2) := by decide +kernel
theorem d14_16 : decode jdk_52_method_16_code 16 = .ok (.iload_n 2, 1) := by decide +kernel
theorem d14_17 : decode jdk_52_method_16_code 17 = .ok (.if_icmp .eq 40, 3) := by decide +kernel
theorem d14_57 : decode jdk_52_method_16_code 57 = .ok (.aload_n 3, 1) := by decide +kernel
theorem d14_58 : decode jdk_52_method_16_code 58 = .ok (.areturn, 1) := by decide +kernel
theorem d14_20 : decode jdk_52_method_16_code 20 = .ok (.aload_n 0, 1) := by decide +kernel
theorem d14_21 : decode jdk_52_method_16_code 21 = .ok (.iload_n 1, 1) := by decide +kernel
theorem d14_22 : decode jdk_52_method_16_code 22 = .ok (.iload_n 2, 1) := by decide +kernel
theorem d14_23 : decode jdk_52_method_16_code 23 = .ok (.invokestatic 119, 3) := by decide +kernel
theorem pd_19 : parseMethodDescriptor "([CII)[B" = some ⟨[(.array .char), .int, .int], some (.array .byte)⟩ := by decide +kernel
theorem d14_26 : decode jdk_52_method_16_code 26 = .ok (.astore 5, 2) := by decide +kernel
theorem d14_28 : decode jdk_52_method_16_code 28 = .ok (.aload 5, 2) := by decide +kernel
theorem d14_30 : decode jdk_52_method_16_code 30 = .ok (.iload 4, 2) := by decide +kernel
theorem d14_32 : decode jdk_52_method_16_code 32 = .ok (.invokestatic 71, 3) := by decide +kernel
theorem pd_13 : parseMethodDescriptor "([BI)C" = some ⟨[(.array .byte), .int], some .char⟩ := by decide +kernel
theorem d14_35 : decode jdk_52_method_16_code 35 = .ok (.sipush 255, 3) := by decide +kernel
theorem d14_38 : decode jdk_52_method_16_code 38 = .ok (.if_icmp .gt 16, 3) := by decide +kernel
theorem d14_54 : decode jdk_52_method_16_code 54 = .ok (.aload 5, 2) := by decide +kernel
theorem d14_56 : decode jdk_52_method_16_code 56 = .ok (.areturn, 1) := by decide +kernel
theorem pn_java_lang_String : plainName "java/lang/String" = true := by first | (simp [plainName, overriddenIn]; done) | decide +kernel
theorem ef_3 (m : MethodId) (x0 : Addr) (x1 : Addr) (x2 : Int32) (x3 : Int32) : entryFrame m #[(.ref x0), (.ref x1), (.int x2), (.int x3), .null] 6 = mkF m 0 #[.val (.ref x0), .val (.ref x1), .val (.int x2), .val (.int x3), .val .null, .unset] [] := by first | (simp [entryFrame, mkF, argsToLocals, Value.category]; done) | rfl
theorem d3_0 : decode jdk_42_method_149_code 0 = .ok (.aload_n 0, 1) := by decide +kernel
theorem d3_1 : decode jdk_42_method_149_code 1 = .ok (.invokespecial 1, 3) := by decide +kernel
theorem d3_4 : decode jdk_42_method_149_code 4 = .ok (.iload_n 3, 1) := by decide +kernel
theorem d3_5 : decode jdk_42_method_149_code 5 = .ok (.ifCond .ne 22, 3) := by decide +kernel
theorem d3_8 : decode jdk_42_method_149_code 8 = .ok (.aload_n 0, 1) := by decide +kernel
theorem d3_9 : decode jdk_42_method_149_code 9 = .ok (.ldc 7, 2) := by decide +kernel
theorem d3_11 : decode jdk_42_method_149_code 11 = .ok (.getfield 9, 3) := by decide +kernel
theorem d3_14 : decode jdk_42_method_149_code 14 = .ok (.putfield 9, 3) := by decide +kernel
theorem d3_17 : decode jdk_42_method_149_code 17 = .ok (.aload_n 0, 1) := by decide +kernel
theorem d3_18 : decode jdk_42_method_149_code 18 = .ok (.ldc 7, 2) := by decide +kernel
theorem d3_20 : decode jdk_42_method_149_code 20 = .ok (.getfield 15, 3) := by decide +kernel
theorem d3_23 : decode jdk_42_method_149_code 23 = .ok (.putfield 15, 3) := by decide +kernel
theorem d3_26 : decode jdk_42_method_149_code 26 = .ok (.return_, 1) := by decide +kernel
theorem d3_27 : decode jdk_42_method_149_code 27 = .ok (.getstatic 38, 3) := by decide +kernel
theorem d3_30 : decode jdk_42_method_149_code 30 = .ok (.ifCond .eq 28, 3) := by decide +kernel
theorem d3_33 : decode jdk_42_method_149_code 33 = .ok (.aload_n 1, 1) := by decide +kernel
theorem d3_34 : decode jdk_42_method_149_code 34 = .ok (.iload_n 2, 1) := by decide +kernel
theorem d3_35 : decode jdk_42_method_149_code 35 = .ok (.iload_n 3, 1) := by decide +kernel
theorem d3_36 : decode jdk_42_method_149_code 36 = .ok (.invokestatic 177, 3) := by decide +kernel
theorem d3_39 : decode jdk_42_method_149_code 39 = .ok (.astore 5, 2) := by decide +kernel
theorem d3_41 : decode jdk_42_method_149_code 41 = .ok (.aload_n 0, 1) := by decide +kernel
theorem d3_42 : decode jdk_42_method_149_code 42 = .ok (.aload 5, 2) := by decide +kernel
theorem d3_44 : decode jdk_42_method_149_code 44 = .ok (.iload_n 3, 1) := by decide +kernel
theorem d3_45 : decode jdk_42_method_149_code 45 = .ok (.invokestatic 47, 3) := by decide +kernel
theorem pd_12 : parseMethodDescriptor "([BI)B" = some ⟨[(.array .byte), .int], some .byte⟩ := by decide +kernel
theorem d3_48 : decode jdk_42_method_149_code 48 = .ok (.putfield 15, 3) := by decide +kernel
theorem d3_51 : decode jdk_42_method_149_code 51 = .ok (.aload_n 0, 1) := by decide +kernel
theorem d3_52 : decode jdk_42_method_149_code 52 = .ok (.aload 5, 2) := by decide +kernel
theorem d3_54 : decode jdk_42_method_149_code 54 = .ok (.putfield 9, 3) := by decide +kernel
theorem d3_57 : decode jdk_42_method_149_code 57 = .ok (.return_, 1) := by decide +kernel
theorem ef_2 (m : MethodId) (x0 : Addr) (x1 : Addr) : entryFrame m #[(.ref x0), (.ref x1)] 2 = mkF m 0 #[.val (.ref x0), .val (.ref x1)] [] := by first | (simp [entryFrame, mkF, argsToLocals, Value.category]; done) | rfl
theorem d2_0 : decode jdk_42_method_3_code 0 = .ok (.aload_n 0, 1) := by decide +kernel
theorem d2_1 : decode jdk_42_method_3_code 1 = .ok (.aload_n 1, 1) := by decide +kernel
theorem d2_2 : decode jdk_42_method_3_code 2 = .ok (.iconst 0, 1) := by decide +kernel
theorem d2_3 : decode jdk_42_method_3_code 3 = .ok (.aload_n 1, 1) := by decide +kernel
theorem d2_4 : decode jdk_42_method_3_code 4 = .ok (.arraylength, 1) := by decide +kernel
theorem d2_5 : decode jdk_42_method_3_code 5 = .ok (.aconst_null, 1) := by decide +kernel
theorem d2_6 : decode jdk_42_method_3_code 6 = .ok (.invokespecial 27, 3) := by decide +kernel
theorem pd_21 : parseMethodDescriptor "([CIILjava/lang/Void;)V" = some ⟨[(.array .char), .int, .int, (.object "java/lang/Void")], none⟩ := by decide +kernel
theorem d2_9 : decode jdk_42_method_3_code 9 = .ok (.return_, 1) := by decide +kernel
theorem pn_com_example_lease_lease_service_SizesCheckCharactersPinLaw : plainName "com/example/lease/lease/service/SizesCheckCharactersPinLaw" = true := by first | (simp [plainName, overriddenIn]; done) | decide +kernel
theorem ef_1 (m : MethodId) (x0 : Addr) (x1 : Int32) : entryFrame m #[(.ref x0), (.int x1)] 2 = mkF m 0 #[.val (.ref x0), .val (.int x1)] [] := by first | (simp [entryFrame, mkF, argsToLocals, Value.category]; done) | rfl
theorem d1_0 : decode method_3_code 0 = .ok (.iload_n 1, 1) := by decide +kernel
theorem d1_1 : decode method_3_code 1 = .ok (.ifCond .ne 14, 3) := by decide +kernel
theorem d1_4 : decode method_3_code 4 = .ok (.new 10, 3) := by decide +kernel
theorem d1_7 : decode method_3_code 7 = .ok (.dup, 1) := by decide +kernel
theorem d1_8 : decode method_3_code 8 = .ok (.iconst 0, 1) := by decide +kernel
theorem d1_9 : decode method_3_code 9 = .ok (.newarray .char, 2) := by decide +kernel
theorem d1_11 : decode method_3_code 11 = .ok (.invokespecial 12, 3) := by decide +kernel
theorem pd_17 : parseMethodDescriptor "([C)V" = some ⟨[(.array .char)], none⟩ := by decide +kernel
theorem d1_14 : decode method_3_code 14 = .ok (.areturn, 1) := by decide +kernel
theorem d1_15 : decode method_3_code 15 = .ok (.iload_n 1, 1) := by decide +kernel
theorem d1_16 : decode method_3_code 16 = .ok (.iconst 1, 1) := by decide +kernel
theorem d1_17 : decode method_3_code 17 = .ok (.if_icmp .ne 20, 3) := by decide +kernel
theorem d1_20 : decode method_3_code 20 = .ok (.new 10, 3) := by decide +kernel
theorem d1_23 : decode method_3_code 23 = .ok (.dup, 1) := by decide +kernel
theorem d1_24 : decode method_3_code 24 = .ok (.iconst 1, 1) := by decide +kernel
theorem d1_25 : decode method_3_code 25 = .ok (.newarray .char, 2) := by decide +kernel
theorem d1_27 : decode method_3_code 27 = .ok (.dup, 1) := by decide +kernel
theorem d1_28 : decode method_3_code 28 = .ok (.iconst 0, 1) := by decide +kernel
theorem d1_29 : decode method_3_code 29 = .ok (.aload_n 0, 1) := by decide +kernel
theorem d1_30 : decode method_3_code 30 = .ok (.iconst 0, 1) := by decide +kernel
theorem d1_31 : decode method_3_code 31 = .ok (.caload, 1) := by decide +kernel
theorem d1_32 : decode method_3_code 32 = .ok (.castore, 1) := by decide +kernel
theorem d1_33 : decode method_3_code 33 = .ok (.invokespecial 12, 3) := by decide +kernel
theorem d1_36 : decode method_3_code 36 = .ok (.areturn, 1) := by decide +kernel
theorem d1_37 : decode method_3_code 37 = .ok (.iload_n 1, 1) := by decide +kernel
theorem d1_38 : decode method_3_code 38 = .ok (.iconst 2, 1) := by decide +kernel
theorem d1_39 : decode method_3_code 39 = .ok (.if_icmp .ne 26, 3) := by decide +kernel
theorem d1_42 : decode method_3_code 42 = .ok (.new 10, 3) := by decide +kernel
theorem d1_45 : decode method_3_code 45 = .ok (.dup, 1) := by decide +kernel
theorem d1_46 : decode method_3_code 46 = .ok (.iconst 2, 1) := by decide +kernel
theorem d1_47 : decode method_3_code 47 = .ok (.newarray .char, 2) := by decide +kernel
theorem d1_49 : decode method_3_code 49 = .ok (.dup, 1) := by decide +kernel
theorem d1_50 : decode method_3_code 50 = .ok (.iconst 0, 1) := by decide +kernel
theorem d1_51 : decode method_3_code 51 = .ok (.aload_n 0, 1) := by decide +kernel
theorem d1_52 : decode method_3_code 52 = .ok (.iconst 0, 1) := by decide +kernel
theorem d1_53 : decode method_3_code 53 = .ok (.caload, 1) := by decide +kernel
theorem d1_54 : decode method_3_code 54 = .ok (.castore, 1) := by decide +kernel
theorem d1_55 : decode method_3_code 55 = .ok (.dup, 1) := by decide +kernel
theorem d1_56 : decode method_3_code 56 = .ok (.iconst 1, 1) := by decide +kernel
theorem d1_57 : decode method_3_code 57 = .ok (.aload_n 0, 1) := by decide +kernel
theorem d1_58 : decode method_3_code 58 = .ok (.iconst 1, 1) := by decide +kernel
theorem d1_59 : decode method_3_code 59 = .ok (.caload, 1) := by decide +kernel
theorem d1_60 : decode method_3_code 60 = .ok (.castore, 1) := by decide +kernel
theorem d1_61 : decode method_3_code 61 = .ok (.invokespecial 12, 3) := by decide +kernel
theorem d1_64 : decode method_3_code 64 = .ok (.areturn, 1) := by decide +kernel
theorem d1_65 : decode method_3_code 65 = .ok (.iload_n 1, 1) := by decide +kernel
theorem d1_66 : decode method_3_code 66 = .ok (.iconst 3, 1) := by decide +kernel
theorem d1_67 : decode method_3_code 67 = .ok (.if_icmp .ne 32, 3) := by decide +kernel
theorem d1_70 : decode method_3_code 70 = .ok (.new 10, 3) := by decide +kernel
theorem d1_73 : decode method_3_code 73 = .ok (.dup, 1) := by decide +kernel
theorem d1_74 : decode method_3_code 74 = .ok (.iconst 3, 1) := by decide +kernel
theorem d1_75 : decode method_3_code 75 = .ok (.newarray .char, 2) := by decide +kernel
theorem d1_77 : decode method_3_code 77 = .ok (.dup, 1) := by decide +kernel
theorem d1_78 : decode method_3_code 78 = .ok (.iconst 0, 1) := by decide +kernel
theorem d1_79 : decode method_3_code 79 = .ok (.aload_n 0, 1) := by decide +kernel
theorem d1_80 : decode method_3_code 80 = .ok (.iconst 0, 1) := by decide +kernel
theorem d1_81 : decode method_3_code 81 = .ok (.caload, 1) := by decide +kernel
theorem d1_82 : decode method_3_code 82 = .ok (.castore, 1) := by decide +kernel
theorem d1_83 : decode method_3_code 83 = .ok (.dup, 1) := by decide +kernel
theorem d1_84 : decode method_3_code 84 = .ok (.iconst 1, 1) := by decide +kernel
theorem d1_85 : decode method_3_code 85 = .ok (.aload_n 0, 1) := by decide +kernel
theorem d1_86 : decode method_3_code 86 = .ok (.iconst 1, 1) := by decide +kernel
theorem d1_87 : decode method_3_code 87 = .ok (.caload, 1) := by decide +kernel
theorem d1_88 : decode method_3_code 88 = .ok (.castore, 1) := by decide +kernel
theorem d1_89 : decode method_3_code 89 = .ok (.dup, 1) := by decide +kernel
theorem d1_90 : decode method_3_code 90 = .ok (.iconst 2, 1) := by decide +kernel
theorem d1_91 : decode method_3_code 91 = .ok (.aload_n 0, 1) := by decide +kernel
theorem d1_92 : decode method_3_code 92 = .ok (.iconst 2, 1) := by decide +kernel
theorem d1_93 : decode method_3_code 93 = .ok (.caload, 1) := by decide +kernel
theorem d1_94 : decode method_3_code 94 = .ok (.castore, 1) := by decide +kernel
theorem d1_95 : decode method_3_code 95 = .ok (.invokespecial 12, 3) := by decide +kernel
theorem d1_98 : decode method_3_code 98 = .ok (.areturn, 1) := by decide +kernel
theorem d1_99 : decode method_3_code 99 = .ok (.iload_n 1, 1) := by decide +kernel
theorem d1_100 : decode method_3_code 100 = .ok (.iconst 4, 1) := by decide +kernel
theorem d1_101 : decode method_3_code 101 = .ok (.if_icmp .ne 38, 3) := by decide +kernel
theorem d1_104 : decode method_3_code 104 = .ok (.new 10, 3) := by decide +kernel
theorem d1_107 : decode method_3_code 107 = .ok (.dup, 1) := by decide +kernel
theorem d1_108 : decode method_3_code 108 = .ok (.iconst 4, 1) := by decide +kernel
theorem d1_109 : decode method_3_code 109 = .ok (.newarray .char, 2) := by decide +kernel
theorem d1_111 : decode method_3_code 111 = .ok (.dup, 1) := by decide +kernel
theorem d1_112 : decode method_3_code 112 = .ok (.iconst 0, 1) := by decide +kernel
theorem d1_113 : decode method_3_code 113 = .ok (.aload_n 0, 1) := by decide +kernel
theorem d1_114 : decode method_3_code 114 = .ok (.iconst 0, 1) := by decide +kernel
theorem d1_115 : decode method_3_code 115 = .ok (.caload, 1) := by decide +kernel
theorem d1_116 : decode method_3_code 116 = .ok (.castore, 1) := by decide +kernel
theorem d1_117 : decode method_3_code 117 = .ok (.dup, 1) := by decide +kernel
theorem d1_118 : decode method_3_code 118 = .ok (.iconst 1, 1) := by decide +kernel
theorem d1_119 : decode method_3_code 119 = .ok (.aload_n 0, 1) := by decide +kernel
theorem d1_120 : decode method_3_code 120 = .ok (.iconst 1, 1) := by decide +kernel
theorem d1_121 : decode method_3_code 121 = .ok (.caload, 1) := by decide +kernel
theorem d1_122 : decode method_3_code 122 = .ok (.castore, 1) := by decide +kernel
theorem d1_123 : decode method_3_code 123 = .ok (.dup, 1) := by decide +kernel
theorem d1_124 : decode method_3_code 124 = .ok (.iconst 2, 1) := by decide +kernel
theorem d1_125 : decode method_3_code 125 = .ok (.aload_n 0, 1) := by decide +kernel
theorem d1_126 : decode method_3_code 126 = .ok (.iconst 2, 1) := by decide +kernel
theorem d1_127 : decode method_3_code 127 = .ok (.caload, 1) := by decide +kernel
theorem d1_128 : decode method_3_code 128 = .ok (.castore, 1) := by decide +kernel
theorem d1_129 : decode method_3_code 129 = .ok (.dup, 1) := by decide +kernel
theorem d1_130 : decode method_3_code 130 = .ok (.iconst 3, 1) := by decide +kernel
theorem d1_131 : decode method_3_code 131 = .ok (.aload_n 0, 1) := by decide +kernel
theorem d1_132 : decode method_3_code 132 = .ok (.iconst 3, 1) := by decide +kernel
theorem d1_133 : decode method_3_code 133 = .ok (.caload, 1) := by decide +kernel
theorem d1_134 : decode method_3_code 134 = .ok (.castore, 1) := by decide +kernel
theorem d1_135 : decode method_3_code 135 = .ok (.invokespecial 12, 3) := by decide +kernel
theorem d1_138 : decode method_3_code 138 = .ok (.areturn, 1) := by decide +kernel
theorem d1_139 : decode method_3_code 139 = .ok (.iload_n 1, 1) := by decide +kernel
theorem d1_140 : decode method_3_code 140 = .ok (.iconst 5, 1) := by decide +kernel
theorem d1_141 : decode method_3_code 141 = .ok (.if_icmp .ne 44, 3) := by decide +kernel
theorem d1_144 : decode method_3_code 144 = .ok (.new 10, 3) := by decide +kernel
theorem d1_147 : decode method_3_code 147 = .ok (.dup, 1) := by decide +kernel
theorem d1_148 : decode method_3_code 148 = .ok (.iconst 5, 1) := by decide +kernel
theorem d1_149 : decode method_3_code 149 = .ok (.newarray .char, 2) := by decide +kernel
theorem d1_151 : decode method_3_code 151 = .ok (.dup, 1) := by decide +kernel
theorem d1_152 : decode method_3_code 152 = .ok (.iconst 0, 1) := by decide +kernel
theorem d1_153 : decode method_3_code 153 = .ok (.aload_n 0, 1) := by decide +kernel
theorem d1_154 : decode method_3_code 154 = .ok (.iconst 0, 1) := by decide +kernel
theorem d1_155 : decode method_3_code 155 = .ok (.caload, 1) := by decide +kernel
theorem d1_156 : decode method_3_code 156 = .ok (.castore, 1) := by decide +kernel
theorem d1_157 : decode method_3_code 157 = .ok (.dup, 1) := by decide +kernel
theorem d1_158 : decode method_3_code 158 = .ok (.iconst 1, 1) := by decide +kernel
theorem d1_159 : decode method_3_code 159 = .ok (.aload_n 0, 1) := by decide +kernel
theorem d1_160 : decode method_3_code 160 = .ok (.iconst 1, 1) := by decide +kernel
theorem d1_161 : decode method_3_code 161 = .ok (.caload, 1) := by decide +kernel
theorem d1_162 : decode method_3_code 162 = .ok (.castore, 1) := by decide +kernel
theorem d1_163 : decode method_3_code 163 = .ok (.dup, 1) := by decide +kernel
theorem d1_164 : decode method_3_code 164 = .ok (.iconst 2, 1) := by decide +kernel
theorem d1_165 : decode method_3_code 165 = .ok (.aload_n 0, 1) := by decide +kernel
theorem d1_166 : decode method_3_code 166 = .ok (.iconst 2, 1) := by decide +kernel
theorem d1_167 : decode method_3_code 167 = .ok (.caload, 1) := by decide +kernel
theorem d1_168 : decode method_3_code 168 = .ok (.castore, 1) := by decide +kernel
theorem d1_169 : decode method_3_code 169 = .ok (.dup, 1) := by decide +kernel
theorem d1_170 : decode method_3_code 170 = .ok (.iconst 3, 1) := by decide +kernel
theorem d1_171 : decode method_3_code 171 = .ok (.aload_n 0, 1) := by decide +kernel
theorem d1_172 : decode method_3_code 172 = .ok (.iconst 3, 1) := by decide +kernel
theorem d1_173 : decode method_3_code 173 = .ok (.caload, 1) := by decide +kernel
theorem d1_174 : decode method_3_code 174 = .ok (.castore, 1) := by decide +kernel
theorem d1_175 : decode method_3_code 175 = .ok (.dup, 1) := by decide +kernel
theorem d1_176 : decode method_3_code 176 = .ok (.iconst 4, 1) := by decide +kernel
theorem d1_177 : decode method_3_code 177 = .ok (.aload_n 0, 1) := by decide +kernel
theorem d1_178 : decode method_3_code 178 = .ok (.iconst 4, 1) := by decide +kernel
theorem d1_179 : decode method_3_code 179 = .ok (.caload, 1) := by decide +kernel
theorem d1_180 : decode method_3_code 180 = .ok (.castore, 1) := by decide +kernel
theorem d1_181 : decode method_3_code 181 = .ok (.invokespecial 12, 3) := by decide +kernel
theorem d1_184 : decode method_3_code 184 = .ok (.areturn, 1) := by decide +kernel
theorem d1_185 : decode method_3_code 185 = .ok (.new 10, 3) := by decide +kernel
theorem d1_188 : decode method_3_code 188 = .ok (.dup, 1) := by decide +kernel
theorem d1_189 : decode method_3_code 189 = .ok (.bipush 6, 2) := by decide +kernel
theorem d1_191 : decode method_3_code 191 = .ok (.newarray .char, 2) := by decide +kernel
theorem d1_193 : decode method_3_code 193 = .ok (.dup, 1) := by decide +kernel
theorem d1_194 : decode method_3_code 194 = .ok (.iconst 0, 1) := by decide +kernel
theorem d1_195 : decode method_3_code 195 = .ok (.aload_n 0, 1) := by decide +kernel
theorem d1_196 : decode method_3_code 196 = .ok (.iconst 0, 1) := by decide +kernel
theorem d1_197 : decode method_3_code 197 = .ok (.caload, 1) := by decide +kernel
theorem d1_198 : decode method_3_code 198 = .ok (.castore, 1) := by decide +kernel
theorem d1_199 : decode method_3_code 199 = .ok (.dup, 1) := by decide +kernel
theorem d1_200 : decode method_3_code 200 = .ok (.iconst 1, 1) := by decide +kernel
theorem d1_201 : decode method_3_code 201 = .ok (.aload_n 0, 1) := by decide +kernel
theorem d1_202 : decode method_3_code 202 = .ok (.iconst 1, 1) := by decide +kernel
theorem d1_203 : decode method_3_code 203 = .ok (.caload, 1) := by decide +kernel
theorem d1_204 : decode method_3_code 204 = .ok (.castore, 1) := by decide +kernel
theorem d1_205 : decode method_3_code 205 = .ok (.dup, 1) := by decide +kernel
theorem d1_206 : decode method_3_code 206 = .ok (.iconst 2, 1) := by decide +kernel
theorem d1_207 : decode method_3_code 207 = .ok (.aload_n 0, 1) := by decide +kernel
theorem d1_208 : decode method_3_code 208 = .ok (.iconst 2, 1) := by decide +kernel
theorem d1_209 : decode method_3_code 209 = .ok (.caload, 1) := by decide +kernel
theorem d1_210 : decode method_3_code 210 = .ok (.castore, 1) := by decide +kernel
theorem d1_211 : decode method_3_code 211 = .ok (.dup, 1) := by decide +kernel
theorem d1_212 : decode method_3_code 212 = .ok (.iconst 3, 1) := by decide +kernel
theorem d1_213 : decode method_3_code 213 = .ok (.aload_n 0, 1) := by decide +kernel
theorem d1_214 : decode method_3_code 214 = .ok (.iconst 3, 1) := by decide +kernel
theorem d1_215 : decode method_3_code 215 = .ok (.caload, 1) := by decide +kernel
theorem d1_216 : decode method_3_code 216 = .ok (.castore, 1) := by decide +kernel
theorem d1_217 : decode method_3_code 217 = .ok (.dup, 1) := by decide +kernel
theorem d1_218 : decode method_3_code 218 = .ok (.iconst 4, 1) := by decide +kernel
theorem d1_219 : decode method_3_code 219 = .ok (.aload_n 0, 1) := by decide +kernel
theorem d1_220 : decode method_3_code 220 = .ok (.iconst 4, 1) := by decide +kernel
theorem d1_221 : decode method_3_code 221 = .ok (.caload, 1) := by decide +kernel
theorem d1_222 : decode method_3_code 222 = .ok (.castore, 1) := by decide +kernel
theorem d1_223 : decode method_3_code 223 = .ok (.dup, 1) := by decide +kernel
theorem d1_224 : decode method_3_code 224 = .ok (.iconst 5, 1) := by decide +kernel
theorem d1_225 : decode method_3_code 225 = .ok (.aload_n 0, 1) := by decide +kernel
theorem d1_226 : decode method_3_code 226 = .ok (.iconst 5, 1) := by decide +kernel
theorem d1_227 : decode method_3_code 227 = .ok (.caload, 1) := by decide +kernel
theorem d1_228 : decode method_3_code 228 = .ok (.castore, 1) := by decide +kernel
theorem d1_229 : decode method_3_code 229 = .ok (.invokespecial 12, 3) := by decide +kernel
theorem d1_232 : decode method_3_code 232 = .ok (.areturn, 1) := by decide +kernel
theorem pn_jdk_internal_util_Preconditions : plainName "jdk/internal/util/Preconditions" = true := by first | (simp [plainName, overriddenIn]; done) | decide +kernel
theorem ef_11 (m : MethodId) (x0 : Int32) (x1 : Int32) (x2 : Int32) : entryFrame m #[(.int x0), (.int x1), (.int x2), .null] 4 = mkF m 0 #[.val (.int x0), .val (.int x1), .val (.int x2), .val .null] [] := by first | (simp [entryFrame, mkF, argsToLocals, Value.category]; done) | rfl
theorem d11_0 : decode jdk_41_method_12_code 0 = .ok (.iload_n 0, 1) := by decide +kernel
theorem d11_1 : decode jdk_41_method_12_code 1 = .ok (.ifCond .lt 13, 3) := by decide +kernel
theorem d11_4 : decode jdk_41_method_12_code 4 = .ok (.iload_n 0, 1) := by decide +kernel
theorem d11_5 : decode jdk_41_method_12_code 5 = .ok (.iload_n 1, 1) := by decide +kernel
theorem d11_6 : decode jdk_41_method_12_code 6 = .ok (.if_icmp .gt 8, 3) := by decide +kernel
theorem d11_9 : decode jdk_41_method_12_code 9 = .ok (.iload_n 1, 1) := by decide +kernel
theorem d11_10 : decode jdk_41_method_12_code 10 = .ok (.iload_n 2, 1) := by decide +kernel
theorem d11_11 : decode jdk_41_method_12_code 11 = .ok (.if_icmp .le 11, 3) := by decide +kernel
theorem d11_22 : decode jdk_41_method_12_code 22 = .ok (.iload_n 0, 1) := by decide +kernel
theorem d11_23 : decode jdk_41_method_12_code 23 = .ok (.ireturn, 1) := by decide +kernel
theorem pn_java_util_Objects : plainName "java/util/Objects" = true := by first | (simp [plainName, overriddenIn]; done) | decide +kernel
theorem ef_10 (m : MethodId) (x0 : Int32) (x1 : Int32) (x2 : Int32) : entryFrame m #[(.int x0), (.int x1), (.int x2)] 3 = mkF m 0 #[.val (.int x0), .val (.int x1), .val (.int x2)] [] := by first | (simp [entryFrame, mkF, argsToLocals, Value.category]; done) | rfl
theorem d10_0 : decode jdk_31_method_18_code 0 = .ok (.iload_n 0, 1) := by decide +kernel
theorem d10_1 : decode jdk_31_method_18_code 1 = .ok (.iload_n 1, 1) := by decide +kernel
theorem d10_2 : decode jdk_31_method_18_code 2 = .ok (.iload_n 2, 1) := by decide +kernel
theorem d10_3 : decode jdk_31_method_18_code 3 = .ok (.aconst_null, 1) := by decide +kernel
theorem d10_4 : decode jdk_31_method_18_code 4 = .ok (.invokestatic 111, 3) := by decide +kernel
theorem pd_10 : parseMethodDescriptor "(IIILjava/util/function/BiFunction;)I" = some ⟨[.int, .int, .int, (.object "java/util/function/BiFunction")], some .int⟩ := by decide +kernel
theorem d10_7 : decode jdk_31_method_18_code 7 = .ok (.ireturn, 1) := by decide +kernel
theorem ef_23 (m : MethodId) (x0 : Addr) (x1 : Int32) (x2 : Int32) (x3 : Int32) : entryFrame m #[(.ref x0), (.int x1), (.int x2), (.int x3)] 6 = mkF m 0 #[.val (.ref x0), .val (.int x1), .val (.int x2), .val (.int x3), .unset, .unset] [] := by first | (simp [entryFrame, mkF, argsToLocals, Value.category]; done) | rfl
theorem d23_0 : decode jdk_52_method_11_code 0 = .ok (.getstatic 44, 3) := by decide +kernel
theorem d23_3 : decode jdk_52_method_11_code 3 = .ok (.ifCond .ne 16, 3) := by decide +kernel
theorem d23_19 : decode jdk_52_method_11_code 19 = .ok (.iload_n 2, 1) := by decide +kernel
theorem d23_20 : decode jdk_52_method_11_code 20 = .ok (.iload_n 1, 1) := by decide +kernel
theorem d23_21 : decode jdk_52_method_11_code 21 = .ok (.isub, 1) := by decide +kernel
theorem d23_22 : decode jdk_52_method_11_code 22 = .ok (.istore 4, 2) := by decide +kernel
theorem d23_24 : decode jdk_52_method_11_code 24 = .ok (.iload_n 1, 1) := by decide +kernel
theorem d23_25 : decode jdk_52_method_11_code 25 = .ok (.istore 5, 2) := by decide +kernel
theorem d23_27 : decode jdk_52_method_11_code 27 = .ok (.iload_n 3, 1) := by decide +kernel
theorem d23_28 : decode jdk_52_method_11_code 28 = .ok (.ifCond .eq 16, 3) := by decide +kernel
theorem d23_44 : decode jdk_52_method_11_code 44 = .ok (.iload 5, 2) := by decide +kernel
theorem d23_46 : decode jdk_52_method_11_code 46 = .ok (.iload_n 2, 1) := by decide +kernel
theorem d23_47 : decode jdk_52_method_11_code 47 = .ok (.iconst 1, 1) := by decide +kernel
theorem d23_48 : decode jdk_52_method_11_code 48 = .ok (.isub, 1) := by decide +kernel
theorem d23_49 : decode jdk_52_method_11_code 49 = .ok (.if_icmp .ge 39, 3) := by decide +kernel
theorem d23_88 : decode jdk_52_method_11_code 88 = .ok (.iload 4, 2) := by decide +kernel
theorem d23_90 : decode jdk_52_method_11_code 90 = .ok (.ireturn, 1) := by decide +kernel
theorem d23_52 : decode jdk_52_method_11_code 52 = .ok (.aload_n 0, 1) := by decide +kernel
theorem d23_53 : decode jdk_52_method_11_code 53 = .ok (.iload 5, 2) := by decide +kernel
theorem d23_55 : decode jdk_52_method_11_code 55 = .ok (.iinc 5 1, 3) := by decide +kernel
theorem d23_58 : decode jdk_52_method_11_code 58 = .ok (.invokestatic 71, 3) := by decide +kernel
theorem d23_61 : decode jdk_52_method_11_code 61 = .ok (.invokestatic 75, 3) := by decide +kernel
theorem pd_4 : parseMethodDescriptor "(C)Z" = some ⟨[.char], some .boolean⟩ := by decide +kernel
theorem d23_64 : decode jdk_52_method_11_code 64 = .ok (.ifCond .eq (-20), 3) := by decide +kernel
theorem d23_67 : decode jdk_52_method_11_code 67 = .ok (.aload_n 0, 1) := by decide +kernel
theorem d23_68 : decode jdk_52_method_11_code 68 = .ok (.iload 5, 2) := by decide +kernel
theorem d23_70 : decode jdk_52_method_11_code 70 = .ok (.invokestatic 71, 3) := by decide +kernel
theorem d23_73 : decode jdk_52_method_11_code 73 = .ok (.invokestatic 81, 3) := by decide +kernel
theorem d23_76 : decode jdk_52_method_11_code 76 = .ok (.ifCond .eq (-32), 3) := by decide +kernel
theorem d23_79 : decode jdk_52_method_11_code 79 = .ok (.iinc 4 (-1), 3) := by decide +kernel
theorem d23_82 : decode jdk_52_method_11_code 82 = .ok (.iinc 5 1, 3) := by decide +kernel
theorem d23_85 : decode jdk_52_method_11_code 85 = .ok (.goto (-41), 3) := by decide +kernel
theorem ef_22 (m : MethodId) (x0 : Addr) (x1 : Int32) (x2 : Int32) : entryFrame m #[(.ref x0), (.int x1), (.int x2)] 3 = mkF m 0 #[.val (.ref x0), .val (.int x1), .val (.int x2)] [] := by first | (simp [entryFrame, mkF, argsToLocals, Value.category]; done) | rfl
theorem d22_0 : decode jdk_52_method_12_code 0 = .ok (.aload_n 0, 1) := by decide +kernel
theorem d22_1 : decode jdk_52_method_12_code 1 = .ok (.iload_n 1, 1) := by decide +kernel
theorem d22_2 : decode jdk_52_method_12_code 2 = .ok (.iload_n 2, 1) := by decide +kernel
theorem d22_3 : decode jdk_52_method_12_code 3 = .ok (.iconst 0, 1) := by decide +kernel
theorem d22_4 : decode jdk_52_method_12_code 4 = .ok (.invokestatic 100, 3) := by decide +kernel
theorem pd_16 : parseMethodDescriptor "([BIIZ)I" = some ⟨[(.array .byte), .int, .int, .boolean], some .int⟩ := by decide +kernel
theorem d22_7 : decode jdk_52_method_12_code 7 = .ok (.ireturn, 1) := by decide +kernel
theorem ef_8 (m : MethodId) (x0 : Addr) : entryFrame m #[(.ref x0)] 1 = mkF m 0 #[.val (.ref x0)] [] := by first | (simp [entryFrame, mkF, argsToLocals, Value.category]; done) | rfl
theorem d8_0 : decode jdk_42_method_152_code 0 = .ok (.getstatic 38, 3) := by decide +kernel
theorem d8_3 : decode jdk_42_method_152_code 3 = .ok (.ifCond .eq 10, 3) := by decide +kernel
theorem d8_6 : decode jdk_42_method_152_code 6 = .ok (.aload_n 0, 1) := by decide +kernel
theorem d8_7 : decode jdk_42_method_152_code 7 = .ok (.getfield 15, 3) := by decide +kernel
theorem d8_10 : decode jdk_42_method_152_code 10 = .ok (.goto 4, 3) := by decide +kernel
theorem d8_14 : decode jdk_42_method_152_code 14 = .ok (.ireturn, 1) := by decide +kernel
theorem ef_7 (m : MethodId) (x0 : Addr) : entryFrame m #[(.ref x0)] 1 = mkF m 0 #[.val (.ref x0)] [] := by first | (simp [entryFrame, mkF, argsToLocals, Value.category]; done) | rfl
theorem d7_0 : decode jdk_42_method_54_code 0 = .ok (.aload_n 0, 1) := by decide +kernel
theorem d7_1 : decode jdk_42_method_54_code 1 = .ok (.getfield 9, 3) := by decide +kernel
theorem d7_4 : decode jdk_42_method_54_code 4 = .ok (.arraylength, 1) := by decide +kernel
theorem d7_5 : decode jdk_42_method_54_code 5 = .ok (.aload_n 0, 1) := by decide +kernel
theorem d7_6 : decode jdk_42_method_54_code 6 = .ok (.invokevirtual 335, 3) := by decide +kernel
theorem pd_0 : parseMethodDescriptor "()B" = some ⟨[], some .byte⟩ := by decide +kernel
theorem d7_9 : decode jdk_42_method_54_code 9 = .ok (.ishr, 1) := by decide +kernel
theorem d7_10 : decode jdk_42_method_54_code 10 = .ok (.ireturn, 1) := by decide +kernel
theorem ef_12 (m : MethodId) (x0 : Addr) : entryFrame m #[(.ref x0)] 1 = mkF m 0 #[.val (.ref x0)] [] := by first | (simp [entryFrame, mkF, argsToLocals, Value.category]; done) | rfl
theorem d12_0 : decode jdk_42_method_154_code 0 = .ok (.getstatic 38, 3) := by decide +kernel
theorem d12_3 : decode jdk_42_method_154_code 3 = .ok (.ifCond .eq 14, 3) := by decide +kernel
theorem d12_6 : decode jdk_42_method_154_code 6 = .ok (.aload_n 0, 1) := by decide +kernel
theorem d12_7 : decode jdk_42_method_154_code 7 = .ok (.getfield 15, 3) := by decide +kernel
theorem d12_10 : decode jdk_42_method_154_code 10 = .ok (.ifCond .ne 7, 3) := by decide +kernel
theorem d12_13 : decode jdk_42_method_154_code 13 = .ok (.iconst 1, 1) := by decide +kernel
theorem d12_14 : decode jdk_42_method_154_code 14 = .ok (.goto 4, 3) := by decide +kernel
theorem d12_18 : decode jdk_42_method_154_code 18 = .ok (.ireturn, 1) := by decide +kernel
theorem ef_9 (m : MethodId) (x0 : Addr) (x1 : Int32) (x2 : Int32) : entryFrame m #[(.ref x0), (.int x1), (.int x2)] 3 = mkF m 0 #[.val (.ref x0), .val (.int x1), .val (.int x2)] [] := by first | (simp [entryFrame, mkF, argsToLocals, Value.category]; done) | rfl
theorem d9_0 : decode jdk_42_method_59_code 0 = .ok (.iload_n 1, 1) := by decide +kernel
theorem d9_1 : decode jdk_42_method_59_code 1 = .ok (.iload_n 2, 1) := by decide +kernel
theorem d9_2 : decode jdk_42_method_59_code 2 = .ok (.aload_n 0, 1) := by decide +kernel
theorem d9_3 : decode jdk_42_method_59_code 3 = .ok (.invokevirtual 505, 3) := by decide +kernel
theorem pd_1 : parseMethodDescriptor "()I" = some ⟨[], some .int⟩ := by decide +kernel
theorem d9_6 : decode jdk_42_method_59_code 6 = .ok (.invokestatic 511, 3) := by decide +kernel
theorem pd_8 : parseMethodDescriptor "(III)I" = some ⟨[.int, .int, .int], some .int⟩ := by decide +kernel
theorem d9_9 : decode jdk_42_method_59_code 9 = .ok (.pop, 1) := by decide +kernel
theorem d9_10 : decode jdk_42_method_59_code 10 = .ok (.aload_n 0, 1) := by decide +kernel
theorem d9_11 : decode jdk_42_method_59_code 11 = .ok (.invokevirtual 492, 3) := by decide +kernel
theorem pd_3 : parseMethodDescriptor "()Z" = some ⟨[], some .boolean⟩ := by decide +kernel
theorem d9_14 : decode jdk_42_method_59_code 14 = .ok (.ifCond .eq 7, 3) := by decide +kernel
theorem d9_17 : decode jdk_42_method_59_code 17 = .ok (.iload_n 2, 1) := by decide +kernel
theorem d9_18 : decode jdk_42_method_59_code 18 = .ok (.iload_n 1, 1) := by decide +kernel
theorem d9_19 : decode jdk_42_method_59_code 19 = .ok (.isub, 1) := by decide +kernel
theorem d9_20 : decode jdk_42_method_59_code 20 = .ok (.ireturn, 1) := by decide +kernel
theorem d12_17 : decode jdk_42_method_154_code 17 = .ok (.iconst 0, 1) := by decide +kernel
theorem d9_21 : decode jdk_42_method_59_code 21 = .ok (.aload_n 0, 1) := by decide +kernel
theorem d9_22 : decode jdk_42_method_59_code 22 = .ok (.getfield 9, 3) := by decide +kernel
theorem d9_25 : decode jdk_42_method_59_code 25 = .ok (.iload_n 1, 1) := by decide +kernel
theorem d9_26 : decode jdk_42_method_59_code 26 = .ok (.iload_n 2, 1) := by decide +kernel
theorem d9_27 : decode jdk_42_method_59_code 27 = .ok (.invokestatic 514, 3) := by decide +kernel
theorem pd_14 : parseMethodDescriptor "([BII)I" = some ⟨[(.array .byte), .int, .int], some .int⟩ := by decide +kernel
theorem d9_30 : decode jdk_42_method_59_code 30 = .ok (.ireturn, 1) := by decide +kernel
theorem pn_com_example_lease_lease_service_Sizes : plainName "com/example/lease/lease/service/Sizes" = true := by first | (simp [plainName, overriddenIn]; done) | decide +kernel
theorem ef_6n (m : MethodId) (x0 : Addr) (x2 : Int32) : entryFrame m #[(.ref x0), .null, (.int x2)] 3 = mkF m 0 #[.val (.ref x0), .val .null, .val (.int x2)] [] := by first | (simp [entryFrame, mkF, argsToLocals, Value.category]; done) | rfl
theorem d6_0 : decode prog_41_method_2_code 0 = .ok (.aload_n 1, 1) := by decide +kernel
theorem d6_1 : decode prog_41_method_2_code 1 = .ok (.ifnull 27, 3) := by decide +kernel
theorem d6_28 : decode prog_41_method_2_code 28 = .ok (.return_, 1) := by decide +kernel
theorem ef_6 (m : MethodId) (x0 : Addr) (x1 : Addr) (x2 : Int32) : entryFrame m #[(.ref x0), (.ref x1), (.int x2)] 3 = mkF m 0 #[.val (.ref x0), .val (.ref x1), .val (.int x2)] [] := by first | (simp [entryFrame, mkF, argsToLocals, Value.category]; done) | rfl
theorem d6_4 : decode prog_41_method_2_code 4 = .ok (.aload_n 1, 1) := by decide +kernel
theorem d6_5 : decode prog_41_method_2_code 5 = .ok (.iconst 0, 1) := by decide +kernel
theorem d6_6 : decode prog_41_method_2_code 6 = .ok (.aload_n 1, 1) := by decide +kernel
theorem d6_7 : decode prog_41_method_2_code 7 = .ok (.invokevirtual 7, 3) := by decide +kernel
theorem d6_10 : decode prog_41_method_2_code 10 = .ok (.invokevirtual 13, 3) := by decide +kernel
theorem pd_7 : parseMethodDescriptor "(II)I" = some ⟨[.int, .int], some .int⟩ := by decide +kernel
theorem d6_13 : decode prog_41_method_2_code 13 = .ok (.iload_n 2, 1) := by decide +kernel
theorem d6_14 : decode prog_41_method_2_code 14 = .ok (.if_icmp .le 14, 3) := by decide +kernel
theorem ef_5 (m : MethodId) (x0 : Int32) (x1 : Int32) : entryFrame m #[(.int x0), (.int x1)] 2 = mkF m 0 #[.val (.int x0), .val (.int x1)] [] := by first | (simp [entryFrame, mkF, argsToLocals, Value.category]; done) | rfl
theorem d5_0 : decode jdk_29_method_65_code 0 = .ok (.iload_n 0, 1) := by decide +kernel
theorem d5_1 : decode jdk_29_method_65_code 1 = .ok (.iload_n 1, 1) := by decide +kernel
theorem d5_2 : decode jdk_29_method_65_code 2 = .ok (.if_icmp .lt 7, 3) := by decide +kernel
theorem d5_9 : decode jdk_29_method_65_code 9 = .ok (.iload_n 1, 1) := by decide +kernel
theorem d5_10 : decode jdk_29_method_65_code 10 = .ok (.ireturn, 1) := by decide +kernel
theorem d5_5 : decode jdk_29_method_65_code 5 = .ok (.iload_n 0, 1) := by decide +kernel
theorem d5_6 : decode jdk_29_method_65_code 6 = .ok (.goto 4, 3) := by decide +kernel
theorem ef_13 (m : MethodId) (x0 : Addr) (x1 : Int32) (x2 : Int32) (x3 : Int32) : entryFrame m #[(.ref x0), (.int x1), (.int x2), (.int x3)] 5 = mkF m 0 #[.val (.ref x0), .val (.int x1), .val (.int x2), .val (.int x3), .unset] [] := by first | (simp [entryFrame, mkF, argsToLocals, Value.category]; done) | rfl
theorem d13_0 : decode method_2_code 0 = .ok (.iload_n 2, 1) := by decide +kernel
theorem d13_1 : decode method_2_code 1 = .ok (.iconst 3, 1) := by decide +kernel
theorem d13_2 : decode method_2_code 2 = .ok (.iand, 1) := by decide +kernel
theorem d13_3 : decode method_2_code 3 = .ok (.istore 4, 2) := by decide +kernel
theorem d13_5 : decode method_2_code 5 = .ok (.iload 4, 2) := by decide +kernel
theorem d13_7 : decode method_2_code 7 = .ok (.ifCond .ne 16, 3) := by decide +kernel
theorem d13_10 : decode method_2_code 10 = .ok (.aload_n 0, 1) := by decide +kernel
theorem d13_11 : decode method_2_code 11 = .ok (.iload_n 1, 1) := by decide +kernel
theorem d13_12 : decode method_2_code 12 = .ok (.iload_n 3, 1) := by decide +kernel
theorem d13_13 : decode method_2_code 13 = .ok (.sipush 255, 3) := by decide +kernel
theorem d13_16 : decode method_2_code 16 = .ok (.iand, 1) := by decide +kernel
theorem d13_17 : decode method_2_code 17 = .ok (.i2c, 1) := by decide +kernel
theorem d13_18 : decode method_2_code 18 = .ok (.castore, 1) := by decide +kernel
theorem d13_19 : decode method_2_code 19 = .ok (.iload_n 1, 1) := by decide +kernel
theorem d13_20 : decode method_2_code 20 = .ok (.iconst 1, 1) := by decide +kernel
theorem d13_21 : decode method_2_code 21 = .ok (.iadd, 1) := by decide +kernel
theorem d13_22 : decode method_2_code 22 = .ok (.ireturn, 1) := by decide +kernel
theorem d13_23 : decode method_2_code 23 = .ok (.iload 4, 2) := by decide +kernel
theorem d13_25 : decode method_2_code 25 = .ok (.iconst 1, 1) := by decide +kernel
theorem d13_26 : decode method_2_code 26 = .ok (.if_icmp .ne 36, 3) := by decide +kernel
theorem d13_29 : decode method_2_code 29 = .ok (.aload_n 0, 1) := by decide +kernel
theorem d13_30 : decode method_2_code 30 = .ok (.iload_n 1, 1) := by decide +kernel
theorem d13_31 : decode method_2_code 31 = .ok (.ldc 7, 2) := by decide +kernel
theorem d13_33 : decode method_2_code 33 = .ok (.iload_n 3, 1) := by decide +kernel
theorem d13_34 : decode method_2_code 34 = .ok (.bipush 10, 2) := by decide +kernel
theorem d13_36 : decode method_2_code 36 = .ok (.iushr, 1) := by decide +kernel
theorem d13_37 : decode method_2_code 37 = .ok (.sipush 1023, 3) := by decide +kernel
theorem d13_40 : decode method_2_code 40 = .ok (.iand, 1) := by decide +kernel
theorem d13_41 : decode method_2_code 41 = .ok (.ior, 1) := by decide +kernel
theorem d13_42 : decode method_2_code 42 = .ok (.i2c, 1) := by decide +kernel
theorem d13_43 : decode method_2_code 43 = .ok (.castore, 1) := by decide +kernel
theorem d13_44 : decode method_2_code 44 = .ok (.aload_n 0, 1) := by decide +kernel
theorem d13_45 : decode method_2_code 45 = .ok (.iload_n 1, 1) := by decide +kernel
theorem d13_46 : decode method_2_code 46 = .ok (.iconst 1, 1) := by decide +kernel
theorem d13_47 : decode method_2_code 47 = .ok (.iadd, 1) := by decide +kernel
theorem d13_48 : decode method_2_code 48 = .ok (.ldc 8, 2) := by decide +kernel
theorem d13_50 : decode method_2_code 50 = .ok (.iload_n 3, 1) := by decide +kernel
theorem d13_51 : decode method_2_code 51 = .ok (.sipush 1023, 3) := by decide +kernel
theorem d13_54 : decode method_2_code 54 = .ok (.iand, 1) := by decide +kernel
theorem d13_55 : decode method_2_code 55 = .ok (.ior, 1) := by decide +kernel
theorem d13_56 : decode method_2_code 56 = .ok (.i2c, 1) := by decide +kernel
theorem d13_57 : decode method_2_code 57 = .ok (.castore, 1) := by decide +kernel
theorem d13_58 : decode method_2_code 58 = .ok (.iload_n 1, 1) := by decide +kernel
theorem d13_59 : decode method_2_code 59 = .ok (.iconst 2, 1) := by decide +kernel
theorem d13_60 : decode method_2_code 60 = .ok (.iadd, 1) := by decide +kernel
theorem d13_61 : decode method_2_code 61 = .ok (.ireturn, 1) := by decide +kernel
theorem d13_62 : decode method_2_code 62 = .ok (.iload 4, 2) := by decide +kernel
theorem d13_64 : decode method_2_code 64 = .ok (.iconst 2, 1) := by decide +kernel
theorem d13_65 : decode method_2_code 65 = .ok (.if_icmp .ne 19, 3) := by decide +kernel
theorem d13_68 : decode method_2_code 68 = .ok (.aload_n 0, 1) := by decide +kernel
theorem d13_69 : decode method_2_code 69 = .ok (.iload_n 1, 1) := by decide +kernel
theorem d13_70 : decode method_2_code 70 = .ok (.ldc 8, 2) := by decide +kernel
theorem d13_72 : decode method_2_code 72 = .ok (.iload_n 3, 1) := by decide +kernel
theorem d13_73 : decode method_2_code 73 = .ok (.sipush 1023, 3) := by decide +kernel
theorem d13_76 : decode method_2_code 76 = .ok (.iand, 1) := by decide +kernel
theorem d13_77 : decode method_2_code 77 = .ok (.ior, 1) := by decide +kernel
theorem d13_78 : decode method_2_code 78 = .ok (.i2c, 1) := by decide +kernel
theorem d13_79 : decode method_2_code 79 = .ok (.castore, 1) := by decide +kernel
theorem d13_80 : decode method_2_code 80 = .ok (.iload_n 1, 1) := by decide +kernel
theorem d13_81 : decode method_2_code 81 = .ok (.iconst 1, 1) := by decide +kernel
theorem d13_82 : decode method_2_code 82 = .ok (.iadd, 1) := by decide +kernel
theorem d13_83 : decode method_2_code 83 = .ok (.ireturn, 1) := by decide +kernel
theorem d13_84 : decode method_2_code 84 = .ok (.aload_n 0, 1) := by decide +kernel
theorem d13_85 : decode method_2_code 85 = .ok (.iload_n 1, 1) := by decide +kernel
theorem d13_86 : decode method_2_code 86 = .ok (.ldc 9, 2) := by decide +kernel
theorem d13_88 : decode method_2_code 88 = .ok (.iload_n 3, 1) := by decide +kernel
theorem d13_89 : decode method_2_code 89 = .ok (.sipush 8191, 3) := by decide +kernel
theorem d13_92 : decode method_2_code 92 = .ok (.iand, 1) := by decide +kernel
theorem d13_93 : decode method_2_code 93 = .ok (.iadd, 1) := by decide +kernel
theorem d13_94 : decode method_2_code 94 = .ok (.i2c, 1) := by decide +kernel
theorem d13_95 : decode method_2_code 95 = .ok (.castore, 1) := by decide +kernel
theorem d13_96 : decode method_2_code 96 = .ok (.iload_n 1, 1) := by decide +kernel
theorem d13_97 : decode method_2_code 97 = .ok (.iconst 1, 1) := by decide +kernel
theorem d13_98 : decode method_2_code 98 = .ok (.iadd, 1) := by decide +kernel
theorem d13_99 : decode method_2_code 99 = .ok (.ireturn, 1) := by decide +kernel
theorem ef_0 (m : MethodId) (x0 : Int32) (x1 : Int32) (x2 : Int32) (x3 : Int32) (x4 : Int32) : entryFrame m #[(.int x0), (.int x1), (.int x2), (.int x3), (.int x4)] maxLocals = mkF m 0 #[.val (.int x0), .val (.int x1), .val (.int x2), .val (.int x3), .val (.int x4), .unset, .unset, .unset, .unset, .unset, .unset] [] := by first | (simp [entryFrame, mkF, argsToLocals, Value.category, maxLocals]; done) | rfl
theorem pd_18 : parseMethodDescriptor "([CI)Ljava/lang/String;" = some ⟨[(.array .char), .int], some (.object "java/lang/String")⟩ := by decide +kernel
theorem pd_11 : parseMethodDescriptor "(Ljava/lang/String;Ljava/lang/String;I)V" = some ⟨[(.object "java/lang/String"), (.object "java/lang/String"), .int], none⟩ := by decide +kernel
theorem pd_20 : parseMethodDescriptor "([CIII)I" = some ⟨[(.array .char), .int, .int, .int], some .int⟩ := by decide +kernel
set_option maxRecDepth 65536 in
set_option maxHeartbeats 40000000 in
theorem rmHi (l : Launch) (Z : State) (a0 : Array Value) (hw : ∀ d ∈ tables_1, d.before a0 Z = true) (ws : List Jvm.Cond) (x1 : Int32) (h0 : Heap) (n0 : Nat) (Z0 : n0 ≤ h0.size) :
    own_Met l Z (⟨"java/lang/Character", "isHighSurrogate", "(C)Z"⟩ : MethodName) jdk_89_method_14_code 1 (some .boolean) ws ({ frames := 0, cells := 0, slots := 0, locals := 0 } : Room) #[(.int x1)] h0 (fun v h L => v = some (.int (if own_hi x1 then 1 else 0)) ∧ Fr n0 L ∧ h = h0) := by
  refine own_body (by first | exact plainFor_of_name pn_java_lang_Character | decide +kernel) ?_
  intro p e s m below meth c T0 X0 hx hby hml hret hlk hZ hown hnm e0
  have hown : s.vm.findClass "java/lang/Character" = some m.cls := hown
  have hnm : meth.name = "isHighSurrogate" := hnm
  have N0 := Fr.nil n0
  rw [ef_24 m x1]
  show own_Go p e below _ T0 (mkF m 0 #[.val (.int x1)] [])
  refine own_go (fun t_ k_ => XS.iloadN X0.here hx rfl (hb hby d24_0) rfl k_) ?_
  show own_Go p e below _ T0 (mkF m 1 #[.val (.int x1)] [(.int x1)])
  refine own_go (fun t_ k_ => X0.ldcInt hx hown (mvT hZ (own_w hw 110 rfl)) (g := (mkF m 1 #[.val (.int x1)] [(.int x1)])) rfl (hb hby d24_1) t_ k_) ?_
  show own_Go p e below _ T0 (mkF m 3 #[.val (.int x1)] [(.int (55296 : Int32)), (.int x1)])
  by_cases h3 : x1 < (55296 : Int32)
  · show own_Go p e below _ T0 (mkF m 3 #[.val (.int x1)] [(.int (55296 : Int32)), (.int x1)])
    refine own_go (fun t_ k_ => XS.icmpYes X0.here hx rfl (pc0 := 3) (pc' := 16) rfl (hb hby d24_3) rfl (XT.ii_lt_t h3) (by decide) (by decide) k_) ?_
    show own_Go p e below _ T0 (mkF m 16 #[.val (.int x1)] [])
    refine own_go (fun t_ k_ => XS.iconst X0.here hx rfl (hb hby d24_16) k_) ?_
    show own_Go p e below _ T0 (mkF m 17 #[.val (.int x1)] [(.int (0 : Int32))])
    refine own_retZ X0 hx hlk hret (hb hby d24_17) (Or.inl rfl) (by decide) (by decide) ?_
    exact ⟨by rw [if_neg (fun q : own_hi x1 => q.1 h3)], N0, e0⟩
  · show own_Go p e below _ T0 (mkF m 3 #[.val (.int x1)] [(.int (55296 : Int32)), (.int x1)])
    refine own_go (fun t_ k_ => XS.icmpNo X0.here hx rfl (hb hby d24_3) rfl (XT.ii_lt_f h3) k_) ?_
    show own_Go p e below _ T0 (mkF m 6 #[.val (.int x1)] [])
    refine own_go (fun t_ k_ => XS.iloadN X0.here hx rfl (hb hby d24_6) rfl k_) ?_
    show own_Go p e below _ T0 (mkF m 7 #[.val (.int x1)] [(.int x1)])
    refine own_go (fun t_ k_ => X0.ldcInt hx hown (mvT hZ (own_w hw 111 rfl)) (g := (mkF m 7 #[.val (.int x1)] [(.int x1)])) rfl (hb hby d24_7) t_ k_) ?_
    show own_Go p e below _ T0 (mkF m 9 #[.val (.int x1)] [(.int (56320 : Int32)), (.int x1)])
    by_cases h9 : x1 < (56320 : Int32)
    · show own_Go p e below _ T0 (mkF m 9 #[.val (.int x1)] [(.int (56320 : Int32)), (.int x1)])
      refine own_go (fun t_ k_ => XS.icmpNo X0.here hx rfl (hb hby d24_9) rfl (XT.ii_ge_f h9) k_) ?_
      show own_Go p e below _ T0 (mkF m 12 #[.val (.int x1)] [])
      refine own_go (fun t_ k_ => XS.iconst X0.here hx rfl (hb hby d24_12) k_) ?_
      show own_Go p e below _ T0 (mkF m 13 #[.val (.int x1)] [(.int (1 : Int32))])
      refine own_go (fun t_ k_ => XS.goto X0.here hx rfl (pc0 := 13) (pc' := 17) rfl (hb hby d24_13) (by decide) (by decide) k_) ?_
      show own_Go p e below _ T0 (mkF m 17 #[.val (.int x1)] [(.int (1 : Int32))])
      refine own_retZ X0 hx hlk hret (hb hby d24_17) (Or.inr rfl) (by decide) (by decide) ?_
      exact ⟨by rw [if_pos (show own_hi x1 from ⟨h3, h9⟩)], N0, e0⟩
    · show own_Go p e below _ T0 (mkF m 9 #[.val (.int x1)] [(.int (56320 : Int32)), (.int x1)])
      refine own_go (fun t_ k_ => XS.icmpYes X0.here hx rfl (pc0 := 9) (pc' := 16) rfl (hb hby d24_9) rfl (XT.ii_ge_t h9) (by decide) (by decide) k_) ?_
      show own_Go p e below _ T0 (mkF m 16 #[.val (.int x1)] [])
      refine own_go (fun t_ k_ => XS.iconst X0.here hx rfl (hb hby d24_16) k_) ?_
      show own_Go p e below _ T0 (mkF m 17 #[.val (.int x1)] [(.int (0 : Int32))])
      refine own_retZ X0 hx hlk hret (hb hby d24_17) (Or.inl rfl) (by decide) (by decide) ?_
      exact ⟨by rw [if_neg (fun q : own_hi x1 => h9 q.2)], N0, e0⟩
set_option maxRecDepth 65536 in
set_option maxHeartbeats 40000000 in
theorem rmLo (l : Launch) (Z : State) (a0 : Array Value) (hw : ∀ d ∈ tables_1, d.before a0 Z = true) (ws : List Jvm.Cond) (x1 : Int32) (h0 : Heap) (n0 : Nat) (Z0 : n0 ≤ h0.size) :
    own_Met l Z (⟨"java/lang/Character", "isLowSurrogate", "(C)Z"⟩ : MethodName) jdk_89_method_15_code 1 (some .boolean) ws ({ frames := 0, cells := 0, slots := 0, locals := 0 } : Room) #[(.int x1)] h0 (fun v h L => v = some (.int (if own_lo x1 then 1 else 0)) ∧ Fr n0 L ∧ h = h0) := by
  refine own_body (by first | exact plainFor_of_name pn_java_lang_Character | decide +kernel) ?_
  intro p e s m below meth c T0 X0 hx hby hml hret hlk hZ hown hnm e0
  have hown : s.vm.findClass "java/lang/Character" = some m.cls := hown
  have hnm : meth.name = "isLowSurrogate" := hnm
  have N0 := Fr.nil n0
  rw [ef_25 m x1]
  show own_Go p e below _ T0 (mkF m 0 #[.val (.int x1)] [])
  refine own_go (fun t_ k_ => XS.iloadN X0.here hx rfl (hb hby d25_0) rfl k_) ?_
  show own_Go p e below _ T0 (mkF m 1 #[.val (.int x1)] [(.int x1)])
  refine own_go (fun t_ k_ => X0.ldcInt hx hown (mvT hZ (own_w hw 111 rfl)) (g := (mkF m 1 #[.val (.int x1)] [(.int x1)])) rfl (hb hby d25_1) t_ k_) ?_
  show own_Go p e below _ T0 (mkF m 3 #[.val (.int x1)] [(.int (56320 : Int32)), (.int x1)])
  by_cases h3 : x1 < (56320 : Int32)
  · show own_Go p e below _ T0 (mkF m 3 #[.val (.int x1)] [(.int (56320 : Int32)), (.int x1)])
    refine own_go (fun t_ k_ => XS.icmpYes X0.here hx rfl (pc0 := 3) (pc' := 16) rfl (hb hby d25_3) rfl (XT.ii_lt_t h3) (by decide) (by decide) k_) ?_
    show own_Go p e below _ T0 (mkF m 16 #[.val (.int x1)] [])
    refine own_go (fun t_ k_ => XS.iconst X0.here hx rfl (hb hby d25_16) k_) ?_
    show own_Go p e below _ T0 (mkF m 17 #[.val (.int x1)] [(.int (0 : Int32))])
    refine own_retZ X0 hx hlk hret (hb hby d25_17) (Or.inl rfl) (by decide) (by decide) ?_
    exact ⟨by rw [if_neg (fun q : own_lo x1 => q.1 h3)], N0, e0⟩
  · show own_Go p e below _ T0 (mkF m 3 #[.val (.int x1)] [(.int (56320 : Int32)), (.int x1)])
    refine own_go (fun t_ k_ => XS.icmpNo X0.here hx rfl (hb hby d25_3) rfl (XT.ii_lt_f h3) k_) ?_
    show own_Go p e below _ T0 (mkF m 6 #[.val (.int x1)] [])
    refine own_go (fun t_ k_ => XS.iloadN X0.here hx rfl (hb hby d25_6) rfl k_) ?_
    show own_Go p e below _ T0 (mkF m 7 #[.val (.int x1)] [(.int x1)])
    refine own_go (fun t_ k_ => X0.ldcInt hx hown (mvT hZ (own_w hw 115 rfl)) (g := (mkF m 7 #[.val (.int x1)] [(.int x1)])) rfl (hb hby d25_7) t_ k_) ?_
    show own_Go p e below _ T0 (mkF m 9 #[.val (.int x1)] [(.int (57344 : Int32)), (.int x1)])
    by_cases h9 : x1 < (57344 : Int32)
    · show own_Go p e below _ T0 (mkF m 9 #[.val (.int x1)] [(.int (57344 : Int32)), (.int x1)])
      refine own_go (fun t_ k_ => XS.icmpNo X0.here hx rfl (hb hby d25_9) rfl (XT.ii_ge_f h9) k_) ?_
      show own_Go p e below _ T0 (mkF m 12 #[.val (.int x1)] [])
      refine own_go (fun t_ k_ => XS.iconst X0.here hx rfl (hb hby d25_12) k_) ?_
      show own_Go p e below _ T0 (mkF m 13 #[.val (.int x1)] [(.int (1 : Int32))])
      refine own_go (fun t_ k_ => XS.goto X0.here hx rfl (pc0 := 13) (pc' := 17) rfl (hb hby d25_13) (by decide) (by decide) k_) ?_
      show own_Go p e below _ T0 (mkF m 17 #[.val (.int x1)] [(.int (1 : Int32))])
      refine own_retZ X0 hx hlk hret (hb hby d25_17) (Or.inr rfl) (by decide) (by decide) ?_
      exact ⟨by rw [if_pos (show own_lo x1 from ⟨h3, h9⟩)], N0, e0⟩
    · show own_Go p e below _ T0 (mkF m 9 #[.val (.int x1)] [(.int (57344 : Int32)), (.int x1)])
      refine own_go (fun t_ k_ => XS.icmpYes X0.here hx rfl (pc0 := 9) (pc' := 16) rfl (hb hby d25_9) rfl (XT.ii_ge_t h9) (by decide) (by decide) k_) ?_
      show own_Go p e below _ T0 (mkF m 16 #[.val (.int x1)] [])
      refine own_go (fun t_ k_ => XS.iconst X0.here hx rfl (hb hby d25_16) k_) ?_
      show own_Go p e below _ T0 (mkF m 17 #[.val (.int x1)] [(.int (0 : Int32))])
      refine own_retZ X0 hx hlk hret (hb hby d25_17) (Or.inl rfl) (by decide) (by decide) ?_
      exact ⟨by rw [if_neg (fun q : own_lo x1 => h9 q.2)], N0, e0⟩
set_option maxRecDepth 65536 in
set_option maxHeartbeats 40000000 in
theorem rmGC (l : Launch) (Z : State) (a0 : Array Value) (hw : ∀ d ∈ tables_1, d.before a0 Z = true) (ws : List Jvm.Cond) (vb : Addr) (n i : Nat) (f : Nat → Int32) (h0 : Heap) (n0 : Nat) (Z0 : n0 ≤ h0.size) (O0 : Old Z n0 h0) (S_ad : Sta Z Z.heap "java/lang/StringUTF16" "$assertionsDisabled" "Z" (.int (1 : Int32))) (S_hi : Sta Z Z.heap "java/lang/StringUTF16" "HI_BYTE_SHIFT" "I" (.int (0 : Int32))) (S_lo : Sta Z Z.heap "java/lang/StringUTF16" "LO_BYTE_SHIFT" "I" (.int (8 : Int32))) (V_v : own_BA Z h0 vb (2 * n) (own_by f)) (hi : i < n) (hn : n ≤ 6) (hc : own_isC (f i)) :
    own_Met l Z (⟨"java/lang/StringUTF16", "getChar", "([BI)C"⟩ : MethodName) jdk_52_method_5_code 2 (some .char) ws ({ frames := 0, cells := 0, slots := 0, locals := 0 } : Room) #[(.ref vb), (.int (Int32.ofNat i))] h0 (fun v h L => v = some (.int (f i)) ∧ Fr n0 L ∧ h = h0) := by
  refine own_body (by first | exact plainFor_of_name pn_java_lang_StringUTF16 | decide +kernel) ?_
  intro p e s m below meth c T0 X0 hx hby hml hret hlk hZ hown hnm e0
  have hown : s.vm.findClass "java/lang/StringUTF16" = some m.cls := hown
  have hnm : meth.name = "getChar" := hnm
  have N0 := Fr.nil n0
  rw [ef_21 m vb (Int32.ofNat i)]
  show own_Go p e below _ T0 (mkF m 0 #[.val (.ref vb), .val (.int (Int32.ofNat i))] [])
  obtain ⟨T1, X1, e1, st1⟩ := getS2 X0 hx hZ hown (host := "") (Or.inl (own_w hw 94 rfl)) Via.refl e0 (S_ad.ext O0.2) (g := (mkF m 0 #[.val (.ref vb), .val (.int (Int32.ofNat i))] [])) rfl (hb hby d21_0)
  refine own_go st1 ?_
  show own_Go p e below _ T1 (mkF m 3 #[.val (.ref vb), .val (.int (Int32.ofNat i))] [(.int (1 : Int32))])
  refine own_go (fun t_ k_ => XS.ifYes X1.here hx rfl (pc0 := 3) (pc' := 28) rfl (hb hby d21_3) rfl (XT.i0_ne_t (by decide)) (by decide) (by decide) k_) ?_
  show own_Go p e below _ T1 (mkF m 28 #[.val (.ref vb), .val (.int (Int32.ofNat i))] [])
  refine own_go (fun t_ k_ => XS.iloadN X1.here hx rfl (hb hby d21_28) rfl k_) ?_
  show own_Go p e below _ T1 (mkF m 29 #[.val (.ref vb), .val (.int (Int32.ofNat i))] [(.int (Int32.ofNat i))])
  refine own_go (fun t_ k_ => XS.iconst X1.here hx rfl (hb hby d21_29) k_) ?_
  show own_Go p e below _ T1 (mkF m 30 #[.val (.ref vb), .val (.int (Int32.ofNat i))] [(.int (1 : Int32)), (.int (Int32.ofNat i))])
  refine own_go (fun t_ k_ => XS.ishl X1.here hx rfl (hb hby d21_30) rfl k_) ?_
  show own_Go p e below _ T1 (mkF m 31 #[.val (.ref vb), .val (.int (Int32.ofNat i))] [(.int ((Int32.ofNat i) <<< ((1 : Int32) &&& 31)))])
  rw [show ((Int32.ofNat i) <<< ((1 : Int32) &&& 31)) = (Int32.ofNat (2 * i)) from own_shl1 i]
  show own_Go p e below _ T1 (mkF m 31 #[.val (.ref vb), .val (.int (Int32.ofNat i))] [(.int (Int32.ofNat (2 * i)))])
  refine own_go (fun t_ k_ => XS.istoreN X1.here hx rfl (hb hby d21_31) rfl (l' := #[.val (.ref vb), .val (.int (Int32.ofNat (2 * i)))]) rfl k_) ?_
  show own_Go p e below _ T1 (mkF m 32 #[.val (.ref vb), .val (.int (Int32.ofNat (2 * i)))] [])
  refine own_go (fun t_ k_ => XS.aloadN X1.here hx rfl (hb hby d21_32) rfl rfl k_) ?_
  show own_Go p e below _ T1 (mkF m 33 #[.val (.ref vb), .val (.int (Int32.ofNat (2 * i)))] [(.ref vb)])
  refine own_go (fun t_ k_ => XS.iloadN X1.here hx rfl (hb hby d21_33) rfl k_) ?_
  show own_Go p e below _ T1 (mkF m 34 #[.val (.ref vb), .val (.int (Int32.ofNat (2 * i)))] [(.int (Int32.ofNat (2 * i))), (.ref vb)])
  refine own_go (fun t_ k_ => XS.iinc X1.here hx rfl (hb hby d21_34) rfl (l' := #[.val (.ref vb), .val (.int ((Int32.ofNat (2 * i)) + (1 : Int32)))]) rfl k_) ?_
  show own_Go p e below _ T1 (mkF m 37 #[.val (.ref vb), .val (.int ((Int32.ofNat (2 * i)) + (1 : Int32)))] [(.int (Int32.ofNat (2 * i))), (.ref vb)])
  rw [show ((Int32.ofNat (2 * i)) + (1 : Int32)) = (Int32.ofNat (2 * i + 1)) from own_oAdd (2 * i) 1]
  show own_Go p e below _ T1 (mkF m 37 #[.val (.ref vb), .val (.int (Int32.ofNat (2 * i + 1)))] [(.int (Int32.ofNat (2 * i))), (.ref vb)])
  refine own_go (own_ldBA X1 hx hZ e1 (Ls := #[.val (.ref vb), .val (.int (Int32.ofNat (2 * i + 1)))]) (rest := []) V_v (by omega) (2 * i) (by omega) (hb hby d21_37)) ?_
  show own_Go p e below _ T1 (mkF m 38 #[.val (.ref vb), .val (.int (Int32.ofNat (2 * i + 1)))] [(.int ((own_by f) (2 * i)))])
  refine own_go (fun t_ k_ => XS.sipush X1.here hx rfl (hb hby d21_38) k_) ?_
  show own_Go p e below _ T1 (mkF m 41 #[.val (.ref vb), .val (.int (Int32.ofNat (2 * i + 1)))] [(.int (255 : Int32)), (.int ((own_by f) (2 * i)))])
  refine own_go (fun t_ k_ => XS.iand X1.here hx rfl (hb hby d21_41) rfl k_) ?_
  show own_Go p e below _ T1 (mkF m 42 #[.val (.ref vb), .val (.int (Int32.ofNat (2 * i + 1)))] [(.int (((own_by f) (2 * i)) &&& (255 : Int32)))])
  obtain ⟨T2, X2, e2, st2⟩ := getS2 X1 hx hZ hown (host := "") (Or.inl (own_w hw 95 rfl)) Via.refl e1 (S_hi.ext O0.2) (g := (mkF m 42 #[.val (.ref vb), .val (.int (Int32.ofNat (2 * i + 1)))] [(.int (((own_by f) (2 * i)) &&& (255 : Int32)))])) rfl (hb hby d21_42)
  refine own_go st2 ?_
  show own_Go p e below _ T2 (mkF m 45 #[.val (.ref vb), .val (.int (Int32.ofNat (2 * i + 1)))] [(.int (0 : Int32)), (.int (((own_by f) (2 * i)) &&& (255 : Int32)))])
  refine own_go (fun t_ k_ => XS.ishl X2.here hx rfl (hb hby d21_45) rfl k_) ?_
  show own_Go p e below _ T2 (mkF m 46 #[.val (.ref vb), .val (.int (Int32.ofNat (2 * i + 1)))] [(.int ((((own_by f) (2 * i)) &&& (255 : Int32)) <<< ((0 : Int32) &&& 31)))])
  refine own_go (fun t_ k_ => XS.aloadN X2.here hx rfl (hb hby d21_46) rfl rfl k_) ?_
  show own_Go p e below _ T2 (mkF m 47 #[.val (.ref vb), .val (.int (Int32.ofNat (2 * i + 1)))] [(.ref vb), (.int ((((own_by f) (2 * i)) &&& (255 : Int32)) <<< ((0 : Int32) &&& 31)))])
  refine own_go (fun t_ k_ => XS.iloadN X2.here hx rfl (hb hby d21_47) rfl k_) ?_
  show own_Go p e below _ T2 (mkF m 48 #[.val (.ref vb), .val (.int (Int32.ofNat (2 * i + 1)))] [(.int (Int32.ofNat (2 * i + 1))), (.ref vb), (.int ((((own_by f) (2 * i)) &&& (255 : Int32)) <<< ((0 : Int32) &&& 31)))])
  refine own_go (own_ldBA X2 hx hZ e2 (Ls := #[.val (.ref vb), .val (.int (Int32.ofNat (2 * i + 1)))]) (rest := [(.int ((((own_by f) (2 * i)) &&& (255 : Int32)) <<< ((0 : Int32) &&& 31)))]) V_v (by omega) (2 * i + 1) (by omega) (hb hby d21_48)) ?_
  show own_Go p e below _ T2 (mkF m 49 #[.val (.ref vb), .val (.int (Int32.ofNat (2 * i + 1)))] [(.int ((own_by f) (2 * i + 1))), (.int ((((own_by f) (2 * i)) &&& (255 : Int32)) <<< ((0 : Int32) &&& 31)))])
  refine own_go (fun t_ k_ => XS.sipush X2.here hx rfl (hb hby d21_49) k_) ?_
  show own_Go p e below _ T2 (mkF m 52 #[.val (.ref vb), .val (.int (Int32.ofNat (2 * i + 1)))] [(.int (255 : Int32)), (.int ((own_by f) (2 * i + 1))), (.int ((((own_by f) (2 * i)) &&& (255 : Int32)) <<< ((0 : Int32) &&& 31)))])
  refine own_go (fun t_ k_ => XS.iand X2.here hx rfl (hb hby d21_52) rfl k_) ?_
  show own_Go p e below _ T2 (mkF m 53 #[.val (.ref vb), .val (.int (Int32.ofNat (2 * i + 1)))] [(.int (((own_by f) (2 * i + 1)) &&& (255 : Int32))), (.int ((((own_by f) (2 * i)) &&& (255 : Int32)) <<< ((0 : Int32) &&& 31)))])
  obtain ⟨T3, X3, e3, st3⟩ := getS2 X2 hx hZ hown (host := "") (Or.inl (own_w hw 96 rfl)) Via.refl e2 (S_lo.ext O0.2) (g := (mkF m 53 #[.val (.ref vb), .val (.int (Int32.ofNat (2 * i + 1)))] [(.int (((own_by f) (2 * i + 1)) &&& (255 : Int32))), (.int ((((own_by f) (2 * i)) &&& (255 : Int32)) <<< ((0 : Int32) &&& 31)))])) rfl (hb hby d21_53)
  refine own_go st3 ?_
  show own_Go p e below _ T3 (mkF m 56 #[.val (.ref vb), .val (.int (Int32.ofNat (2 * i + 1)))] [(.int (8 : Int32)), (.int (((own_by f) (2 * i + 1)) &&& (255 : Int32))), (.int ((((own_by f) (2 * i)) &&& (255 : Int32)) <<< ((0 : Int32) &&& 31)))])
  refine own_go (fun t_ k_ => XS.ishl X3.here hx rfl (hb hby d21_56) rfl k_) ?_
  show own_Go p e below _ T3 (mkF m 57 #[.val (.ref vb), .val (.int (Int32.ofNat (2 * i + 1)))] [(.int ((((own_by f) (2 * i + 1)) &&& (255 : Int32)) <<< ((8 : Int32) &&& 31))), (.int ((((own_by f) (2 * i)) &&& (255 : Int32)) <<< ((0 : Int32) &&& 31)))])
  refine own_go (fun t_ k_ => XS.ior X3.here hx rfl (hb hby d21_57) rfl k_) ?_
  show own_Go p e below _ T3 (mkF m 58 #[.val (.ref vb), .val (.int (Int32.ofNat (2 * i + 1)))] [(.int (((((own_by f) (2 * i)) &&& (255 : Int32)) <<< ((0 : Int32) &&& 31)) ||| ((((own_by f) (2 * i + 1)) &&& (255 : Int32)) <<< ((8 : Int32) &&& 31))))])
  refine own_go (fun t_ k_ => XS.i2c X3.here hx rfl (hb hby d21_58) rfl k_) ?_
  show own_Go p e below _ T3 (mkF m 59 #[.val (.ref vb), .val (.int (Int32.ofNat (2 * i + 1)))] [(.int (((((own_by f) (2 * i)) &&& (255 : Int32)) <<< ((0 : Int32) &&& 31)) ||| ((((own_by f) (2 * i + 1)) &&& (255 : Int32)) <<< ((8 : Int32) &&& 31))).toUInt32.toUInt16.toUInt32.toInt32)])
  refine own_ret X3 hx hlk hret (hb hby d21_59) (XT.narrow_c _) (Or.inl ⟨rfl, by simp, _, rfl⟩) (by decide) (by decide) ?_
  exact ⟨congrArg (fun z => some (Value.int z)) (own_gc hc), N0, e3⟩
set_option maxRecDepth 65536 in
set_option maxHeartbeats 40000000 in
theorem rmPC (l : Launch) (Z : State) (a0 : Array Value) (hw : ∀ d ∈ tables_1, d.before a0 Z = true) (ws : List Jvm.Cond) (b : Addr) (n i : Nat) (gg : Nat → Int32) (c1 : Int32) (h0 : Heap) (n0 : Nat) (Z0 : n0 ≤ h0.size) (O0 : Old Z n0 h0) (S_ad : Sta Z Z.heap "java/lang/StringUTF16" "$assertionsDisabled" "Z" (.int (1 : Int32))) (S_hi : Sta Z Z.heap "java/lang/StringUTF16" "HI_BYTE_SHIFT" "I" (.int (0 : Int32))) (S_lo : Sta Z Z.heap "java/lang/StringUTF16" "LO_BYTE_SHIFT" "I" (.int (8 : Int32))) (V_b : own_BA Z h0 b (2 * n) gg) (hi : i < n) (hn : n ≤ 6) (gb : n0 ≤ b) :
    own_Met l Z (⟨"java/lang/StringUTF16", "putChar", "([BII)V"⟩ : MethodName) jdk_52_method_4_code 3 none ws ({ frames := 0, cells := 0, slots := 0, locals := 0 } : Room) #[(.ref b), (.int (Int32.ofNat i)), (.int c1)] h0 (fun v h L => v = none ∧ Fr n0 L ∧ Keep h0 h [b] ∧ own_BA Z h b (2 * n) (fun (x : Nat) => if x = (2 * i + 1) then own_b1 c1 else (fun (x : Nat) => if x = (2 * i) then own_b0 c1 else gg x) x)) := by
  refine own_body (by first | exact plainFor_of_name pn_java_lang_StringUTF16 | decide +kernel) ?_
  intro p e s m below meth c T0 X0 hx hby hml hret hlk hZ hown hnm e0
  have hown : s.vm.findClass "java/lang/StringUTF16" = some m.cls := hown
  have hnm : meth.name = "putChar" := hnm
  have N0 := Fr.nil n0
  rw [ef_20 m b (Int32.ofNat i) c1]
  show own_Go p e below _ T0 (mkF m 0 #[.val (.ref b), .val (.int (Int32.ofNat i)), .val (.int c1)] [])
  obtain ⟨T1, X1, e1, st1⟩ := getS2 X0 hx hZ hown (host := "") (Or.inl (own_w hw 94 rfl)) Via.refl e0 (S_ad.ext O0.2) (g := (mkF m 0 #[.val (.ref b), .val (.int (Int32.ofNat i)), .val (.int c1)] [])) rfl (hb hby d20_0)
  refine own_go st1 ?_
  show own_Go p e below _ T1 (mkF m 3 #[.val (.ref b), .val (.int (Int32.ofNat i)), .val (.int c1)] [(.int (1 : Int32))])
  refine own_go (fun t_ k_ => XS.ifYes X1.here hx rfl (pc0 := 3) (pc' := 28) rfl (hb hby d20_3) rfl (XT.i0_ne_t (by decide)) (by decide) (by decide) k_) ?_
  show own_Go p e below _ T1 (mkF m 28 #[.val (.ref b), .val (.int (Int32.ofNat i)), .val (.int c1)] [])
  refine own_go (fun t_ k_ => XS.iloadN X1.here hx rfl (hb hby d20_28) rfl k_) ?_
  show own_Go p e below _ T1 (mkF m 29 #[.val (.ref b), .val (.int (Int32.ofNat i)), .val (.int c1)] [(.int (Int32.ofNat i))])
  refine own_go (fun t_ k_ => XS.iconst X1.here hx rfl (hb hby d20_29) k_) ?_
  show own_Go p e below _ T1 (mkF m 30 #[.val (.ref b), .val (.int (Int32.ofNat i)), .val (.int c1)] [(.int (1 : Int32)), (.int (Int32.ofNat i))])
  refine own_go (fun t_ k_ => XS.ishl X1.here hx rfl (hb hby d20_30) rfl k_) ?_
  show own_Go p e below _ T1 (mkF m 31 #[.val (.ref b), .val (.int (Int32.ofNat i)), .val (.int c1)] [(.int ((Int32.ofNat i) <<< ((1 : Int32) &&& 31)))])
  rw [show ((Int32.ofNat i) <<< ((1 : Int32) &&& 31)) = (Int32.ofNat (2 * i)) from own_shl1 i]
  show own_Go p e below _ T1 (mkF m 31 #[.val (.ref b), .val (.int (Int32.ofNat i)), .val (.int c1)] [(.int (Int32.ofNat (2 * i)))])
  refine own_go (fun t_ k_ => XS.istoreN X1.here hx rfl (hb hby d20_31) rfl (l' := #[.val (.ref b), .val (.int (Int32.ofNat (2 * i))), .val (.int c1)]) rfl k_) ?_
  show own_Go p e below _ T1 (mkF m 32 #[.val (.ref b), .val (.int (Int32.ofNat (2 * i))), .val (.int c1)] [])
  refine own_go (fun t_ k_ => XS.aloadN X1.here hx rfl (hb hby d20_32) rfl rfl k_) ?_
  show own_Go p e below _ T1 (mkF m 33 #[.val (.ref b), .val (.int (Int32.ofNat (2 * i))), .val (.int c1)] [(.ref b)])
  refine own_go (fun t_ k_ => XS.iloadN X1.here hx rfl (hb hby d20_33) rfl k_) ?_
  show own_Go p e below _ T1 (mkF m 34 #[.val (.ref b), .val (.int (Int32.ofNat (2 * i))), .val (.int c1)] [(.int (Int32.ofNat (2 * i))), (.ref b)])
  refine own_go (fun t_ k_ => XS.iinc X1.here hx rfl (hb hby d20_34) rfl (l' := #[.val (.ref b), .val (.int ((Int32.ofNat (2 * i)) + (1 : Int32))), .val (.int c1)]) rfl k_) ?_
  show own_Go p e below _ T1 (mkF m 37 #[.val (.ref b), .val (.int ((Int32.ofNat (2 * i)) + (1 : Int32))), .val (.int c1)] [(.int (Int32.ofNat (2 * i))), (.ref b)])
  rw [show ((Int32.ofNat (2 * i)) + (1 : Int32)) = (Int32.ofNat (2 * i + 1)) from own_oAdd (2 * i) 1]
  show own_Go p e below _ T1 (mkF m 37 #[.val (.ref b), .val (.int (Int32.ofNat (2 * i + 1))), .val (.int c1)] [(.int (Int32.ofNat (2 * i))), (.ref b)])
  refine own_go (fun t_ k_ => XS.iloadN X1.here hx rfl (hb hby d20_37) rfl k_) ?_
  show own_Go p e below _ T1 (mkF m 38 #[.val (.ref b), .val (.int (Int32.ofNat (2 * i + 1))), .val (.int c1)] [(.int c1), (.int (Int32.ofNat (2 * i))), (.ref b)])
  obtain ⟨T2, X2, e2, st2⟩ := getS2 X1 hx hZ hown (host := "") (Or.inl (own_w hw 95 rfl)) Via.refl e1 (S_hi.ext O0.2) (g := (mkF m 38 #[.val (.ref b), .val (.int (Int32.ofNat (2 * i + 1))), .val (.int c1)] [(.int c1), (.int (Int32.ofNat (2 * i))), (.ref b)])) rfl (hb hby d20_38)
  refine own_go st2 ?_
  show own_Go p e below _ T2 (mkF m 41 #[.val (.ref b), .val (.int (Int32.ofNat (2 * i + 1))), .val (.int c1)] [(.int (0 : Int32)), (.int c1), (.int (Int32.ofNat (2 * i))), (.ref b)])
  refine own_go (fun t_ k_ => XS.ishr X2.here hx rfl (hb hby d20_41) rfl k_) ?_
  show own_Go p e below _ T2 (mkF m 42 #[.val (.ref b), .val (.int (Int32.ofNat (2 * i + 1))), .val (.int c1)] [(.int (c1 >>> ((0 : Int32) &&& 31))), (.int (Int32.ofNat (2 * i))), (.ref b)])
  refine own_go (fun t_ k_ => XS.i2b X2.here hx rfl (hb hby d20_42) rfl k_) ?_
  show own_Go p e below _ T2 (mkF m 43 #[.val (.ref b), .val (.int (Int32.ofNat (2 * i + 1))), .val (.int c1)] [(.int (c1 >>> ((0 : Int32) &&& 31)).toInt8.toInt32), (.int (Int32.ofNat (2 * i))), (.ref b)])
  obtain ⟨T3, h3, L3, X3, N3, e3, ⟨sl3, v3, W3⟩, V3, st3⟩ := own_stBA X2 hx hZ e2 V_b (by omega) (2 * i) (by omega) (y := (c1 >>> ((0 : Int32) &&& 31)).toInt8.toInt32) (own_b8 _) (f' := (fun (x : Nat) => if x = (2 * i) then (c1 >>> ((0 : Int32) &&& 31)).toInt8.toInt32 else gg x)) (fun _ => rfl) N0 gb (Ls := #[.val (.ref b), .val (.int (Int32.ofNat (2 * i + 1))), .val (.int c1)]) (rest := []) (hb hby d20_43)
  have old3 := O0.wr W3 gb
  have kp3 := (Keep.refl h0 [b]).wr W3 (Or.inl (List.mem_of_getElem? (i := 0) rfl))
  refine own_go st3 ?_
  show own_Go p e below _ T3 (mkF m 44 #[.val (.ref b), .val (.int (Int32.ofNat (2 * i + 1))), .val (.int c1)] [])
  refine own_go (fun t_ k_ => XS.aloadN X3.here hx rfl (hb hby d20_44) rfl rfl k_) ?_
  show own_Go p e below _ T3 (mkF m 45 #[.val (.ref b), .val (.int (Int32.ofNat (2 * i + 1))), .val (.int c1)] [(.ref b)])
  refine own_go (fun t_ k_ => XS.iloadN X3.here hx rfl (hb hby d20_45) rfl k_) ?_
  show own_Go p e below _ T3 (mkF m 46 #[.val (.ref b), .val (.int (Int32.ofNat (2 * i + 1))), .val (.int c1)] [(.int (Int32.ofNat (2 * i + 1))), (.ref b)])
  refine own_go (fun t_ k_ => XS.iloadN X3.here hx rfl (hb hby d20_46) rfl k_) ?_
  show own_Go p e below _ T3 (mkF m 47 #[.val (.ref b), .val (.int (Int32.ofNat (2 * i + 1))), .val (.int c1)] [(.int c1), (.int (Int32.ofNat (2 * i + 1))), (.ref b)])
  obtain ⟨T4, X4, e4, st4⟩ := getS2 X3 hx hZ hown (host := "") (Or.inl (own_w hw 96 rfl)) Via.refl e3 (S_lo.ext old3.2) (g := (mkF m 47 #[.val (.ref b), .val (.int (Int32.ofNat (2 * i + 1))), .val (.int c1)] [(.int c1), (.int (Int32.ofNat (2 * i + 1))), (.ref b)])) rfl (hb hby d20_47)
  refine own_go st4 ?_
  show own_Go p e below _ T4 (mkF m 50 #[.val (.ref b), .val (.int (Int32.ofNat (2 * i + 1))), .val (.int c1)] [(.int (8 : Int32)), (.int c1), (.int (Int32.ofNat (2 * i + 1))), (.ref b)])
  refine own_go (fun t_ k_ => XS.ishr X4.here hx rfl (hb hby d20_50) rfl k_) ?_
  show own_Go p e below _ T4 (mkF m 51 #[.val (.ref b), .val (.int (Int32.ofNat (2 * i + 1))), .val (.int c1)] [(.int (c1 >>> ((8 : Int32) &&& 31))), (.int (Int32.ofNat (2 * i + 1))), (.ref b)])
  refine own_go (fun t_ k_ => XS.i2b X4.here hx rfl (hb hby d20_51) rfl k_) ?_
  show own_Go p e below _ T4 (mkF m 52 #[.val (.ref b), .val (.int (Int32.ofNat (2 * i + 1))), .val (.int c1)] [(.int (c1 >>> ((8 : Int32) &&& 31)).toInt8.toInt32), (.int (Int32.ofNat (2 * i + 1))), (.ref b)])
  obtain ⟨T5, h5, L5, X5, N5, e5, ⟨sl5, v5, W5⟩, V5, st5⟩ := own_stBA X4 hx hZ e4 V3 (by omega) (2 * i + 1) (by omega) (y := (c1 >>> ((8 : Int32) &&& 31)).toInt8.toInt32) (own_b8 _) (f' := (fun (x : Nat) => if x = (2 * i + 1) then (c1 >>> ((8 : Int32) &&& 31)).toInt8.toInt32 else (fun (x : Nat) => if x = (2 * i) then (c1 >>> ((0 : Int32) &&& 31)).toInt8.toInt32 else gg x) x)) (fun _ => rfl) N3 gb (Ls := #[.val (.ref b), .val (.int (Int32.ofNat (2 * i + 1))), .val (.int c1)]) (rest := []) (hb hby d20_52)
  have old5 := old3.wr W5 gb
  have kp5 := kp3.wr W5 (Or.inl (List.mem_of_getElem? (i := 0) rfl))
  refine own_go st5 ?_
  show own_Go p e below _ T5 (mkF m 53 #[.val (.ref b), .val (.int (Int32.ofNat (2 * i + 1))), .val (.int c1)] [])
  refine own_retV X5 hx hlk hret (hb hby d20_53) (by decide) (by decide) ?_
  exact ⟨rfl, N5, by rw [e5]; exact ⟨kp5, V5⟩⟩
set_option maxRecDepth 65536 in
set_option maxHeartbeats 40000000 in
theorem rmNL (l : Launch) (Z : State) (a0 : Array Value) (hw : ∀ d ∈ tables_1, d.before a0 Z = true) (ws : List Jvm.Cond) (n : Nat) (h0 : Heap) (n0 : Nat) (Z0 : n0 ≤ h0.size) (hn : n ≤ 6) :
    own_Met l Z (⟨"java/lang/StringUTF16", "newBytesLength", "(I)I"⟩ : MethodName) jdk_52_method_3_code 1 (some .int) ws ({ frames := 0, cells := 0, slots := 0, locals := 0 } : Room) #[(.int (Int32.ofNat n))] h0 (fun v h L => v = some (.int (Int32.ofNat (2 * n))) ∧ Fr n0 L ∧ h = h0) := by
  refine own_body (by first | exact plainFor_of_name pn_java_lang_StringUTF16 | decide +kernel) ?_
  intro p e s m below meth c T0 X0 hx hby hml hret hlk hZ hown hnm e0
  have hown : s.vm.findClass "java/lang/StringUTF16" = some m.cls := hown
  have hnm : meth.name = "newBytesLength" := hnm
  have N0 := Fr.nil n0
  rw [ef_19 m (Int32.ofNat n)]
  show own_Go p e below _ T0 (mkF m 0 #[.val (.int (Int32.ofNat n))] [])
  refine own_go (fun t_ k_ => XS.iloadN X0.here hx rfl (hb hby d19_0) rfl k_) ?_
  show own_Go p e below _ T0 (mkF m 1 #[.val (.int (Int32.ofNat n))] [(.int (Int32.ofNat n))])
  refine own_go (fun t_ k_ => XS.ifYes X0.here hx rfl (pc0 := 1) (pc' := 12) rfl (hb hby d19_1) rfl (XT.i0_ge_t (own_oNeg (by omega))) (by decide) (by decide) k_) ?_
  show own_Go p e below _ T0 (mkF m 12 #[.val (.int (Int32.ofNat n))] [])
  refine own_go (fun t_ k_ => XS.iloadN X0.here hx rfl (hb hby d19_12) rfl k_) ?_
  show own_Go p e below _ T0 (mkF m 13 #[.val (.int (Int32.ofNat n))] [(.int (Int32.ofNat n))])
  refine own_go (fun t_ k_ => X0.ldcInt hx hown (mvT hZ (own_w hw 90 rfl)) (g := (mkF m 13 #[.val (.int (Int32.ofNat n))] [(.int (Int32.ofNat n))])) rfl (hb hby d19_13) t_ k_) ?_
  show own_Go p e below _ T0 (mkF m 15 #[.val (.int (Int32.ofNat n))] [(.int (1073741823 : Int32)), (.int (Int32.ofNat n))])
  refine own_go (fun t_ k_ => XS.icmpYes X0.here hx rfl (pc0 := 15) (pc' := 55) rfl (hb hby d19_15) rfl (XT.ii_lt_t (own_big hn)) (by decide) (by decide) k_) ?_
  show own_Go p e below _ T0 (mkF m 55 #[.val (.int (Int32.ofNat n))] [])
  refine own_go (fun t_ k_ => XS.iloadN X0.here hx rfl (hb hby d19_55) rfl k_) ?_
  show own_Go p e below _ T0 (mkF m 56 #[.val (.int (Int32.ofNat n))] [(.int (Int32.ofNat n))])
  refine own_go (fun t_ k_ => XS.iconst X0.here hx rfl (hb hby d19_56) k_) ?_
  show own_Go p e below _ T0 (mkF m 57 #[.val (.int (Int32.ofNat n))] [(.int (1 : Int32)), (.int (Int32.ofNat n))])
  refine own_go (fun t_ k_ => XS.ishl X0.here hx rfl (hb hby d19_57) rfl k_) ?_
  show own_Go p e below _ T0 (mkF m 58 #[.val (.int (Int32.ofNat n))] [(.int ((Int32.ofNat n) <<< ((1 : Int32) &&& 31)))])
  rw [show ((Int32.ofNat n) <<< ((1 : Int32) &&& 31)) = (Int32.ofNat (2 * n)) from own_shl1 n]
  show own_Go p e below _ T0 (mkF m 58 #[.val (.int (Int32.ofNat n))] [(.int (Int32.ofNat (2 * n)))])
  refine own_retI X0 hx hlk hret (hb hby d19_58) (by decide) (by decide) ?_
  exact ⟨rfl, N0, e0⟩
set_option maxRecDepth 65536 in
set_option maxHeartbeats 40000000 in
theorem rmNB (l : Launch) (Z : State) (a0 : Array Value) (hw : ∀ d ∈ tables_1, d.before a0 Z = true) (ws : List Jvm.Cond) (n : Nat) (h0 : Heap) (n0 : Nat) (Z0 : n0 ≤ h0.size) (O0 : Old Z n0 h0) (hn : n ≤ 6) :
    own_Met l Z (⟨"java/lang/StringUTF16", "newBytesFor", "(I)[B"⟩ : MethodName) jdk_52_method_2_code 1 (some (.array .byte)) ws ({ frames := 1, cells := 1, slots := 12, locals := 12 } : Room) #[(.int (Int32.ofNat n))] h0 (fun v h L => (∃ nb : Addr, v = some (.ref nb) ∧ own_BA Z h nb (2 * n) (fun (_ : Nat) => (0 : Int32)) ∧ h0.size ≤ nb ∧ Keep h0 h []) ∧ Fr n0 L) := by
  refine own_body (by first | exact plainFor_of_name pn_java_lang_StringUTF16 | decide +kernel) ?_
  intro p e s m below meth c T0 X0 hx hby hml hret hlk hZ hown hnm e0
  have hown : s.vm.findClass "java/lang/StringUTF16" = some m.cls := hown
  have hnm : meth.name = "newBytesFor" := hnm
  have N0 := Fr.nil n0
  rw [ef_18 m (Int32.ofNat n)]
  show own_Go p e below _ T0 (mkF m 0 #[.val (.int (Int32.ofNat n))] [])
  refine own_go (fun t_ k_ => XS.iloadN X0.here hx rfl (hb hby d18_0) rfl k_) ?_
  show own_Go p e below _ T0 (mkF m 1 #[.val (.int (Int32.ofNat n))] [(.int (Int32.ofNat n))])
  obtain ⟨_, T1, L1, X1, ⟨rfl, N1, e1⟩, st1⟩ := own_callS X0 hx hZ (y := (⟨"java/lang/StringUTF16", "newBytesLength", "(I)I"⟩ : MethodName)) (argsL := [(.int (Int32.ofNat n))]) (rest := []) (Ls := #[.val (.int (Int32.ofNat n))]) hown (own_w hw 87 rfl) (own_w hw 88 rfl) (own_w hw 70 rfl) (own_w hw 89 rfl) (by decide) e0 (rmNL l Z a0 hw [] n h0 n0 Z0 hn) 0 (by decide) (by decide) (by decide) (by decide) (by rw [hml]; rfl) (lenOf pd_5 rfl) rfl (Nat.le_of_eq rfl) (hb hby d18_1)
  have M1 := Fr.app N0 N1
  refine own_go st1 ?_
  show own_Go p e below _ T1 (mkF m 4 #[.val (.int (Int32.ofNat n))] [(.int (Int32.ofNat (2 * n)))])
  obtain ⟨T2, h2, b2, X2, e2, E2, g2, V2, st2⟩ := own_newBA X1 hx hZ (own_w hw 19 rfl) e1 (Ls := #[.val (.int (Int32.ofNat n))]) (rest := []) (hb hby d18_4) (2 * n) 12 (by omega) (by decide) (by decide) (by decide)
  have ge_b2 : n0 ≤ b2 := g2 ▸ own_oldge O0
  have old2 := O0.ext E2
  have kp2 := (Keep.refl h0 []).ext E2
  refine own_go st2 ?_
  show own_Go p e below _ T2 (mkF m 6 #[.val (.int (Int32.ofNat n))] [(.ref b2)])
  refine own_retA X2 hx hlk hret (hb hby d18_6) rfl rfl (by decide) (by decide) ?_
  exact ⟨⟨b2, rfl, by rw [e2]; exact ⟨V2, Nat.le_of_eq g2.symm, kp2⟩⟩, M1⟩
set_option maxRecDepth 65536 in
set_option maxHeartbeats 40000000 in
theorem rmTB (l : Launch) (Z : State) (a0 : Array Value) (hw : ∀ d ∈ tables_1, d.before a0 Z = true) (ws : List Jvm.Cond) (b : Addr) (n : Nat) (f : Nat → Int32) (h0 : Heap) (n0 : Nat) (Z0 : n0 ≤ h0.size) (O0 : Old Z n0 h0) (S_ad : Sta Z Z.heap "java/lang/StringUTF16" "$assertionsDisabled" "Z" (.int (1 : Int32))) (S_hi : Sta Z Z.heap "java/lang/StringUTF16" "HI_BYTE_SHIFT" "I" (.int (0 : Int32))) (S_lo : Sta Z Z.heap "java/lang/StringUTF16" "LO_BYTE_SHIFT" "I" (.int (8 : Int32))) (V_b : own_CA Z h0 b n f) (hn : n ≤ 6) :
    own_Met l Z (⟨"java/lang/StringUTF16", "toBytes", "([CII)[B"⟩ : MethodName) jdk_52_method_14_code 5 (some (.array .byte)) ws ({ frames := 2, cells := 1, slots := 12, locals := 24 } : Room) #[(.ref b), (.int (0 : Int32)), (.int (Int32.ofNat n))] h0 (fun v h L => (∃ nb : Addr, v = some (.ref nb) ∧ own_BA Z h nb (2 * n) (own_by f) ∧ h0.size ≤ nb ∧ Keep h0 h []) ∧ Fr n0 L) := by
  refine own_body (by first | exact plainFor_of_name pn_java_lang_StringUTF16 | decide +kernel) ?_
  intro p e s m below meth c T0 X0 hx hby hml hret hlk hZ hown hnm e0
  have hown : s.vm.findClass "java/lang/StringUTF16" = some m.cls := hown
  have hnm : meth.name = "toBytes" := hnm
  have N0 := Fr.nil n0
  rw [ef_17 m b (0 : Int32) (Int32.ofNat n)]
  show own_Go p e below _ T0 (mkF m 0 #[.val (.ref b), .val (.int (0 : Int32)), .val (.int (Int32.ofNat n)), .unset, .unset] [])
  refine own_go (fun t_ k_ => XS.iloadN X0.here hx rfl (hb hby d17_0) rfl k_) ?_
  show own_Go p e below _ T0 (mkF m 1 #[.val (.ref b), .val (.int (0 : Int32)), .val (.int (Int32.ofNat n)), .unset, .unset] [(.int (Int32.ofNat n))])
  obtain ⟨_, T1, L1, X1, ⟨⟨nb1, rfl, V1, sz_nb1, K1⟩, N1⟩, st1⟩ := own_callS X0 hx hZ (y := (⟨"java/lang/StringUTF16", "newBytesFor", "(I)[B"⟩ : MethodName)) (argsL := [(.int (Int32.ofNat n))]) (rest := []) (Ls := #[.val (.ref b), .val (.int (0 : Int32)), .val (.int (Int32.ofNat n)), .unset, .unset]) hown (own_w hw 84 rfl) (own_w hw 85 rfl) (own_w hw 70 rfl) (own_w hw 86 rfl) (by decide) e0 (rmNB l Z a0 hw [] n h0 n0 (own_oldge O0) O0 hn) 0 (by decide) (by decide) (by decide) (by decide) (by rw [hml]; rfl) (lenOf pd_6 rfl) rfl (Nat.le_of_eq rfl) (hb hby d17_1)
  have M1 := Fr.app N0 N1
  have kV1_b := V_b.keep K1 nin0
  have old1 := O0.keep K1 all0
  have kp1 := (Keep.refl h0 []).trans K1 all0
  have ge_nb1 : n0 ≤ nb1 := Nat.le_trans Z0 sz_nb1
  refine own_go st1 ?_
  show own_Go p e below _ T1 (mkF m 4 #[.val (.ref b), .val (.int (0 : Int32)), .val (.int (Int32.ofNat n)), .unset, .unset] [(.ref nb1)])
  refine own_go (fun t_ k_ => XS.astoreN X1.here hx rfl (hb hby d17_4) rfl rfl (l' := #[.val (.ref b), .val (.int (0 : Int32)), .val (.int (Int32.ofNat n)), .val (.ref nb1), .unset]) rfl k_) ?_
  show own_Go p e below _ T1 (mkF m 5 #[.val (.ref b), .val (.int (0 : Int32)), .val (.int (Int32.ofNat n)), .val (.ref nb1), .unset] [])
  refine own_go (fun t_ k_ => XS.iconst X1.here hx rfl (hb hby d17_5) k_) ?_
  show own_Go p e below _ T1 (mkF m 6 #[.val (.ref b), .val (.int (0 : Int32)), .val (.int (Int32.ofNat n)), .val (.ref nb1), .unset] [(.int (0 : Int32))])
  refine own_go (fun t_ k_ => XS.istore X1.here hx rfl (hb hby d17_6) rfl (l' := #[.val (.ref b), .val (.int (0 : Int32)), .val (.int (Int32.ofNat n)), .val (.ref nb1), .val (.int (0 : Int32))]) rfl k_) ?_
  show own_Go p e below _ T1 (mkF m 8 #[.val (.ref b), .val (.int (0 : Int32)), .val (.int (Int32.ofNat n)), .val (.ref nb1), .val (.int (0 : Int32))] [])
  have lp1 : ∀ (kk : Nat) (i : Nat) (gg : Nat → Int32) (hy : Heap) (Ty : State) (Ly : List Loc) (Xy : Stand p l e ({ frames := 2, cells := 1, slots := 12, locals := 24 } : Room) s m #[(.ref b), (.int (0 : Int32)), (.int (Int32.ofNat n))] below meth c Ty Ly 1 12) (Ny : Fr n0 Ly) (ey : Ty.heap = hy) (g0 : i + kk = n) (Vb : own_CA Z hy b n f) (Vn : own_BA Z hy nb1 (2 * n) gg) (hg : ∀ x, x < 2 * i → gg x = own_by f x) (Kp : Keep h0 hy []) (Oo : Old Z n0 hy), own_Go p e below (own_K (fun v h L => (∃ nb : Addr, v = some (.ref nb) ∧ own_BA Z h nb (2 * n) (own_by f) ∧ h0.size ≤ nb ∧ Keep h0 h []) ∧ Fr n0 L) s ({ frames := 2, cells := 1, slots := 12, locals := 24 } : Room).cells ({ frames := 2, cells := 1, slots := 12, locals := 24 } : Room).slots) Ty (mkF m 8 #[.val (.ref b), .val (.int (Int32.ofNat i)), .val (.int (Int32.ofNat n)), .val (.ref nb1), .val (.int (Int32.ofNat i))] []) := by
    intro kk
    induction kk with
    | zero =>
      intro i gg hy Ty Ly Xy Ny ey g0 Vb Vn hg Kp Oo
      have ne_b_nb1 : b ≠ nb1 := own_CABA Vb Vn
      show own_Go p e below _ Ty (mkF m 8 #[.val (.ref b), .val (.int (Int32.ofNat i)), .val (.int (Int32.ofNat n)), .val (.ref nb1), .val (.int (Int32.ofNat i))] [])
      refine own_go (fun t_ k_ => XS.iload Xy.here hx rfl (hb hby d17_8) rfl k_) ?_
      show own_Go p e below _ Ty (mkF m 10 #[.val (.ref b), .val (.int (Int32.ofNat i)), .val (.int (Int32.ofNat n)), .val (.ref nb1), .val (.int (Int32.ofNat i))] [(.int (Int32.ofNat i))])
      refine own_go (fun t_ k_ => XS.iloadN Xy.here hx rfl (hb hby d17_10) rfl k_) ?_
      show own_Go p e below _ Ty (mkF m 11 #[.val (.ref b), .val (.int (Int32.ofNat i)), .val (.int (Int32.ofNat n)), .val (.ref nb1), .val (.int (Int32.ofNat i))] [(.int (Int32.ofNat n)), (.int (Int32.ofNat i))])
      refine own_go (fun t_ k_ => XS.icmpYes Xy.here hx rfl (pc0 := 11) (pc' := 32) rfl (hb hby d17_11) rfl (XT.ii_ge_t (fun z => by have := (own_oLt (by omega) (by omega)).mp z; omega)) (by decide) (by decide) k_) ?_
      show own_Go p e below _ Ty (mkF m 32 #[.val (.ref b), .val (.int (Int32.ofNat i)), .val (.int (Int32.ofNat n)), .val (.ref nb1), .val (.int (Int32.ofNat i))] [])
      refine own_go (fun t_ k_ => XS.aloadN Xy.here hx rfl (hb hby d17_32) rfl rfl k_) ?_
      show own_Go p e below _ Ty (mkF m 33 #[.val (.ref b), .val (.int (Int32.ofNat i)), .val (.int (Int32.ofNat n)), .val (.ref nb1), .val (.int (Int32.ofNat i))] [(.ref nb1)])
      refine own_retA Xy hx hlk hret (hb hby d17_33) rfl rfl (by decide) (by decide) ?_
      exact ⟨⟨nb1, rfl, by rw [ey]; exact ⟨Vn.congN (fun x hx => (hg x (by omega)).symm), sz_nb1, Kp⟩⟩, Ny⟩
    | succ kk ih =>
      intro i gg hy Ty Ly Xy Ny ey g0 Vb Vn hg Kp Oo
      have ne_b_nb1 : b ≠ nb1 := own_CABA Vb Vn
      show own_Go p e below _ Ty (mkF m 8 #[.val (.ref b), .val (.int (Int32.ofNat i)), .val (.int (Int32.ofNat n)), .val (.ref nb1), .val (.int (Int32.ofNat i))] [])
      refine own_go (fun t_ k_ => XS.iload Xy.here hx rfl (hb hby d17_8) rfl k_) ?_
      show own_Go p e below _ Ty (mkF m 10 #[.val (.ref b), .val (.int (Int32.ofNat i)), .val (.int (Int32.ofNat n)), .val (.ref nb1), .val (.int (Int32.ofNat i))] [(.int (Int32.ofNat i))])
      refine own_go (fun t_ k_ => XS.iloadN Xy.here hx rfl (hb hby d17_10) rfl k_) ?_
      show own_Go p e below _ Ty (mkF m 11 #[.val (.ref b), .val (.int (Int32.ofNat i)), .val (.int (Int32.ofNat n)), .val (.ref nb1), .val (.int (Int32.ofNat i))] [(.int (Int32.ofNat n)), (.int (Int32.ofNat i))])
      refine own_go (fun t_ k_ => XS.icmpNo Xy.here hx rfl (hb hby d17_11) rfl (XT.ii_ge_f ((own_oLt (by omega) (by omega)).mpr (by omega))) k_) ?_
      show own_Go p e below _ Ty (mkF m 14 #[.val (.ref b), .val (.int (Int32.ofNat i)), .val (.int (Int32.ofNat n)), .val (.ref nb1), .val (.int (Int32.ofNat i))] [])
      refine own_go (fun t_ k_ => XS.aloadN Xy.here hx rfl (hb hby d17_14) rfl rfl k_) ?_
      show own_Go p e below _ Ty (mkF m 15 #[.val (.ref b), .val (.int (Int32.ofNat i)), .val (.int (Int32.ofNat n)), .val (.ref nb1), .val (.int (Int32.ofNat i))] [(.ref nb1)])
      refine own_go (fun t_ k_ => XS.iload Xy.here hx rfl (hb hby d17_15) rfl k_) ?_
      show own_Go p e below _ Ty (mkF m 17 #[.val (.ref b), .val (.int (Int32.ofNat i)), .val (.int (Int32.ofNat n)), .val (.ref nb1), .val (.int (Int32.ofNat i))] [(.int (Int32.ofNat i)), (.ref nb1)])
      refine own_go (fun t_ k_ => XS.aloadN Xy.here hx rfl (hb hby d17_17) rfl rfl k_) ?_
      show own_Go p e below _ Ty (mkF m 18 #[.val (.ref b), .val (.int (Int32.ofNat i)), .val (.int (Int32.ofNat n)), .val (.ref nb1), .val (.int (Int32.ofNat i))] [(.ref b), (.int (Int32.ofNat i)), (.ref nb1)])
      refine own_go (fun t_ k_ => XS.iloadN Xy.here hx rfl (hb hby d17_18) rfl k_) ?_
      show own_Go p e below _ Ty (mkF m 19 #[.val (.ref b), .val (.int (Int32.ofNat i)), .val (.int (Int32.ofNat n)), .val (.ref nb1), .val (.int (Int32.ofNat i))] [(.int (Int32.ofNat i)), (.ref b), (.int (Int32.ofNat i)), (.ref nb1)])
      refine own_go (own_ldCA Xy hx hZ ey (Ls := #[.val (.ref b), .val (.int (Int32.ofNat i)), .val (.int (Int32.ofNat n)), .val (.ref nb1), .val (.int (Int32.ofNat i))]) (rest := [(.int (Int32.ofNat i)), (.ref nb1)]) Vb (by omega) i (by omega) (hb hby d17_19)) ?_
      show own_Go p e below _ Ty (mkF m 20 #[.val (.ref b), .val (.int (Int32.ofNat i)), .val (.int (Int32.ofNat n)), .val (.ref nb1), .val (.int (Int32.ofNat i))] [(.int (f i)), (.int (Int32.ofNat i)), (.ref nb1)])
      obtain ⟨_, T2, L2, X2, ⟨rfl, N2, K2, V2⟩, st2⟩ := own_callS Xy hx hZ (y := (⟨"java/lang/StringUTF16", "putChar", "([BII)V"⟩ : MethodName)) (argsL := [(.ref nb1), (.int (Int32.ofNat i)), (.int (f i))]) (rest := []) (Ls := #[.val (.ref b), .val (.int (Int32.ofNat i)), .val (.int (Int32.ofNat n)), .val (.ref nb1), .val (.int (Int32.ofNat i))]) hown (own_w hw 91 rfl) (own_w hw 92 rfl) (own_w hw 70 rfl) (own_w hw 93 rfl) (by decide) ey (rmPC l Z a0 hw [] nb1 n i gg (f i) hy n0 (own_oldge Oo) Oo S_ad S_hi S_lo Vn (by omega) hn ge_nb1) 0 (by decide) (by decide) (by decide) (by decide) (by rw [hml]; rfl) (lenOf pd_15 rfl) rfl (Nat.le_of_eq rfl) (hb hby d17_20)
      have M2 := Fr.app Ny N2
      have kV2_b := Vb.keep K2 (ninS ne_b_nb1 nin0)
      have old2 := Oo.keep K2 (allS ge_nb1 all0)
      have kp2 := Kp.trans K2 (allS (Or.inr sz_nb1) all0)
      refine own_go st2 ?_
      show own_Go p e below _ T2 (mkF m 23 #[.val (.ref b), .val (.int (Int32.ofNat i)), .val (.int (Int32.ofNat n)), .val (.ref nb1), .val (.int (Int32.ofNat i))] [])
      refine own_go (fun t_ k_ => XS.iinc X2.here hx rfl (hb hby d17_23) rfl (l' := #[.val (.ref b), .val (.int ((Int32.ofNat i) + (1 : Int32))), .val (.int (Int32.ofNat n)), .val (.ref nb1), .val (.int (Int32.ofNat i))]) rfl k_) ?_
      show own_Go p e below _ T2 (mkF m 26 #[.val (.ref b), .val (.int ((Int32.ofNat i) + (1 : Int32))), .val (.int (Int32.ofNat n)), .val (.ref nb1), .val (.int (Int32.ofNat i))] [])
      rw [show ((Int32.ofNat i) + (1 : Int32)) = (Int32.ofNat (i + 1)) from own_oAdd i 1]
      show own_Go p e below _ T2 (mkF m 26 #[.val (.ref b), .val (.int (Int32.ofNat (i + 1))), .val (.int (Int32.ofNat n)), .val (.ref nb1), .val (.int (Int32.ofNat i))] [])
      refine own_go (fun t_ k_ => XS.iinc X2.here hx rfl (hb hby d17_26) rfl (l' := #[.val (.ref b), .val (.int (Int32.ofNat (i + 1))), .val (.int (Int32.ofNat n)), .val (.ref nb1), .val (.int ((Int32.ofNat i) + (1 : Int32)))]) rfl k_) ?_
      show own_Go p e below _ T2 (mkF m 29 #[.val (.ref b), .val (.int (Int32.ofNat (i + 1))), .val (.int (Int32.ofNat n)), .val (.ref nb1), .val (.int ((Int32.ofNat i) + (1 : Int32)))] [])
      rw [show ((Int32.ofNat i) + (1 : Int32)) = (Int32.ofNat (i + 1)) from own_oAdd i 1]
      show own_Go p e below _ T2 (mkF m 29 #[.val (.ref b), .val (.int (Int32.ofNat (i + 1))), .val (.int (Int32.ofNat n)), .val (.ref nb1), .val (.int (Int32.ofNat (i + 1)))] [])
      refine own_go (fun t_ k_ => XS.goto X2.here hx rfl (pc0 := 29) (pc' := 8) rfl (hb hby d17_29) (by decide) (by decide) k_) ?_
      show own_Go p e below _ T2 (mkF m 8 #[.val (.ref b), .val (.int (Int32.ofNat (i + 1))), .val (.int (Int32.ofNat n)), .val (.ref nb1), .val (.int (Int32.ofNat (i + 1)))] [])
      exact ih (i + 1) _ _ T2 _ X2 M2 rfl (by omega) kV2_b V2 (own_byS hg) kp2 old2
  exact lp1 n 0 (fun (_ : Nat) => (0 : Int32)) _ T1 _ X1 M1 rfl (by omega) kV1_b V1 (fun x hx => absurd hx (by omega)) kp1 old1
set_option maxRecDepth 65536 in
set_option maxHeartbeats 40000000 in
theorem rmC5 (l : Launch) (Z : State) (a0 : Array Value) (hw : ∀ d ∈ tables_1, d.before a0 Z = true) (ws : List Jvm.Cond) (b dd : Addr) (n : Nat) (f g1 : Nat → Int32) (h0 : Heap) (n0 : Nat) (Z0 : n0 ≤ h0.size) (O0 : Old Z n0 h0) (V_b : own_CA Z h0 b n f) (V_d : own_BA Z h0 dd n g1) (gd : n0 ≤ dd) (hn : n ≤ 6) :
    own_Met l Z (⟨"java/lang/StringUTF16", "compress", "([CI[BII)I"⟩ : MethodName) jdk_52_method_21_code 7 (some .int) ws ({ frames := 0, cells := 0, slots := 0, locals := 0 } : Room) #[(.ref b), (.int (0 : Int32)), (.ref dd), (.int (0 : Int32)), (.int (Int32.ofNat n))] h0 (fun v h L => (∃ (r : Nat) (gg : Nat → Int32), v = some (.int (Int32.ofNat r)) ∧ r ≤ n ∧ ((r = n ∧ ∀ x, x < n → ¬ (255 : Int32) < f x) ∨ (r < n ∧ (255 : Int32) < f r)) ∧ own_BA Z h dd n gg ∧ Keep h0 h [dd]) ∧ Fr n0 L) := by
  refine own_body (by first | exact plainFor_of_name pn_java_lang_StringUTF16 | decide +kernel) ?_
  intro p e s m below meth c T0 X0 hx hby hml hret hlk hZ hown hnm e0
  have hown : s.vm.findClass "java/lang/StringUTF16" = some m.cls := hown
  have hnm : meth.name = "compress" := hnm
  have N0 := Fr.nil n0
  rw [ef_15 m b (0 : Int32) dd (0 : Int32) (Int32.ofNat n)]
  show own_Go p e below _ T0 (mkF m 0 #[.val (.ref b), .val (.int (0 : Int32)), .val (.ref dd), .val (.int (0 : Int32)), .val (.int (Int32.ofNat n)), .unset, .unset] [])
  refine own_go (fun t_ k_ => XS.iconst X0.here hx rfl (hb hby d15_0) k_) ?_
  show own_Go p e below _ T0 (mkF m 1 #[.val (.ref b), .val (.int (0 : Int32)), .val (.ref dd), .val (.int (0 : Int32)), .val (.int (Int32.ofNat n)), .unset, .unset] [(.int (0 : Int32))])
  refine own_go (fun t_ k_ => XS.istore X0.here hx rfl (hb hby d15_1) rfl (l' := #[.val (.ref b), .val (.int (0 : Int32)), .val (.ref dd), .val (.int (0 : Int32)), .val (.int (Int32.ofNat n)), .val (.int (0 : Int32)), .unset]) rfl k_) ?_
  show own_Go p e below _ T0 (mkF m 3 #[.val (.ref b), .val (.int (0 : Int32)), .val (.ref dd), .val (.int (0 : Int32)), .val (.int (Int32.ofNat n)), .val (.int (0 : Int32)), .unset] [])
  have lp1 : ∀ (kk : Nat) (i : Nat) (gg : Nat → Int32) (hy : Heap) (sl : Slot) (Ty : State) (Ly : List Loc) (Xy : Stand p l e ({ frames := 0, cells := 0, slots := 0, locals := 0 } : Room) s m #[(.ref b), (.int (0 : Int32)), (.ref dd), (.int (0 : Int32)), (.int (Int32.ofNat n))] below meth c Ty Ly 0 0) (Ny : Fr n0 Ly) (ey : Ty.heap = hy) (g0 : i + kk = n) (Vb : own_CA Z hy b n f) (Vn : own_BA Z hy dd n gg) (ha : ∀ x, x < i → ¬ (255 : Int32) < f x) (Kp : Keep h0 hy [dd]) (Oo : Old Z n0 hy) (hsl : sl = .unset ∨ ∃ z6, sl = .val (.int z6)), own_Go p e below (own_K (fun v h L => (∃ (r : Nat) (gg : Nat → Int32), v = some (.int (Int32.ofNat r)) ∧ r ≤ n ∧ ((r = n ∧ ∀ x, x < n → ¬ (255 : Int32) < f x) ∨ (r < n ∧ (255 : Int32) < f r)) ∧ own_BA Z h dd n gg ∧ Keep h0 h [dd]) ∧ Fr n0 L) s ({ frames := 0, cells := 0, slots := 0, locals := 0 } : Room).cells ({ frames := 0, cells := 0, slots := 0, locals := 0 } : Room).slots) Ty (mkF m 3 #[.val (.ref b), .val (.int (Int32.ofNat i)), .val (.ref dd), .val (.int (Int32.ofNat i)), .val (.int (Int32.ofNat n)), .val (.int (Int32.ofNat i)), sl] []) := by
    intro kk
    induction kk with
    | zero =>
      intro i gg hy sl Ty Ly Xy Ny ey g0 Vb Vn ha Kp Oo hsl
      have ne_b_dd : b ≠ dd := own_CABA Vb Vn
      show own_Go p e below _ Ty (mkF m 3 #[.val (.ref b), .val (.int (Int32.ofNat i)), .val (.ref dd), .val (.int (Int32.ofNat i)), .val (.int (Int32.ofNat n)), .val (.int (Int32.ofNat i)), sl] [])
      refine own_go (fun t_ k_ => XS.iload Xy.here hx rfl (hb hby d15_3) rfl k_) ?_
      show own_Go p e below _ Ty (mkF m 5 #[.val (.ref b), .val (.int (Int32.ofNat i)), .val (.ref dd), .val (.int (Int32.ofNat i)), .val (.int (Int32.ofNat n)), .val (.int (Int32.ofNat i)), sl] [(.int (Int32.ofNat i))])
      refine own_go (fun t_ k_ => XS.iload Xy.here hx rfl (hb hby d15_5) rfl k_) ?_
      show own_Go p e below _ Ty (mkF m 7 #[.val (.ref b), .val (.int (Int32.ofNat i)), .val (.ref dd), .val (.int (Int32.ofNat i)), .val (.int (Int32.ofNat n)), .val (.int (Int32.ofNat i)), sl] [(.int (Int32.ofNat n)), (.int (Int32.ofNat i))])
      refine own_go (fun t_ k_ => XS.icmpYes Xy.here hx rfl (pc0 := 7) (pc' := 44) rfl (hb hby d15_7) rfl (XT.ii_ge_t (fun z => by have := (own_oLt (by omega) (by omega)).mp z; omega)) (by decide) (by decide) k_) ?_
      show own_Go p e below _ Ty (mkF m 44 #[.val (.ref b), .val (.int (Int32.ofNat i)), .val (.ref dd), .val (.int (Int32.ofNat i)), .val (.int (Int32.ofNat n)), .val (.int (Int32.ofNat i)), sl] [])
      refine own_go (fun t_ k_ => XS.iload Xy.here hx rfl (hb hby d15_44) rfl k_) ?_
      show own_Go p e below _ Ty (mkF m 46 #[.val (.ref b), .val (.int (Int32.ofNat i)), .val (.ref dd), .val (.int (Int32.ofNat i)), .val (.int (Int32.ofNat n)), .val (.int (Int32.ofNat i)), sl] [(.int (Int32.ofNat n))])
      refine own_retI Xy hx hlk hret (hb hby d15_46) (by decide) (by decide) ?_
      exact ⟨⟨n, gg, rfl, by omega, Or.inl ⟨rfl, fun x hx => ha x (by omega)⟩, by rw [ey]; exact ⟨Vn, Kp⟩⟩, Ny⟩
    | succ kk ih =>
      intro i gg hy sl Ty Ly Xy Ny ey g0 Vb Vn ha Kp Oo hsl
      have ne_b_dd : b ≠ dd := own_CABA Vb Vn
      show own_Go p e below _ Ty (mkF m 3 #[.val (.ref b), .val (.int (Int32.ofNat i)), .val (.ref dd), .val (.int (Int32.ofNat i)), .val (.int (Int32.ofNat n)), .val (.int (Int32.ofNat i)), sl] [])
      refine own_go (fun t_ k_ => XS.iload Xy.here hx rfl (hb hby d15_3) rfl k_) ?_
      show own_Go p e below _ Ty (mkF m 5 #[.val (.ref b), .val (.int (Int32.ofNat i)), .val (.ref dd), .val (.int (Int32.ofNat i)), .val (.int (Int32.ofNat n)), .val (.int (Int32.ofNat i)), sl] [(.int (Int32.ofNat i))])
      refine own_go (fun t_ k_ => XS.iload Xy.here hx rfl (hb hby d15_5) rfl k_) ?_
      show own_Go p e below _ Ty (mkF m 7 #[.val (.ref b), .val (.int (Int32.ofNat i)), .val (.ref dd), .val (.int (Int32.ofNat i)), .val (.int (Int32.ofNat n)), .val (.int (Int32.ofNat i)), sl] [(.int (Int32.ofNat n)), (.int (Int32.ofNat i))])
      refine own_go (fun t_ k_ => XS.icmpNo Xy.here hx rfl (hb hby d15_7) rfl (XT.ii_ge_f ((own_oLt (by omega) (by omega)).mpr (by omega))) k_) ?_
      show own_Go p e below _ Ty (mkF m 10 #[.val (.ref b), .val (.int (Int32.ofNat i)), .val (.ref dd), .val (.int (Int32.ofNat i)), .val (.int (Int32.ofNat n)), .val (.int (Int32.ofNat i)), sl] [])
      refine own_go (fun t_ k_ => XS.aloadN Xy.here hx rfl (hb hby d15_10) rfl rfl k_) ?_
      show own_Go p e below _ Ty (mkF m 11 #[.val (.ref b), .val (.int (Int32.ofNat i)), .val (.ref dd), .val (.int (Int32.ofNat i)), .val (.int (Int32.ofNat n)), .val (.int (Int32.ofNat i)), sl] [(.ref b)])
      refine own_go (fun t_ k_ => XS.iloadN Xy.here hx rfl (hb hby d15_11) rfl k_) ?_
      show own_Go p e below _ Ty (mkF m 12 #[.val (.ref b), .val (.int (Int32.ofNat i)), .val (.ref dd), .val (.int (Int32.ofNat i)), .val (.int (Int32.ofNat n)), .val (.int (Int32.ofNat i)), sl] [(.int (Int32.ofNat i)), (.ref b)])
      refine own_go (own_ldCA Xy hx hZ ey (Ls := #[.val (.ref b), .val (.int (Int32.ofNat i)), .val (.ref dd), .val (.int (Int32.ofNat i)), .val (.int (Int32.ofNat n)), .val (.int (Int32.ofNat i)), sl]) (rest := []) Vb (by omega) i (by omega) (hb hby d15_12)) ?_
      show own_Go p e below _ Ty (mkF m 13 #[.val (.ref b), .val (.int (Int32.ofNat i)), .val (.ref dd), .val (.int (Int32.ofNat i)), .val (.int (Int32.ofNat n)), .val (.int (Int32.ofNat i)), sl] [(.int (f i))])
      refine own_go (fun t_ k_ => XS.istore Xy.here hx rfl (hb hby d15_13) rfl (l' := #[.val (.ref b), .val (.int (Int32.ofNat i)), .val (.ref dd), .val (.int (Int32.ofNat i)), .val (.int (Int32.ofNat n)), .val (.int (Int32.ofNat i)), .val (.int (f i))]) (by rcases hsl with rfl | ⟨x6, rfl⟩ <;> rfl) k_) ?_
      show own_Go p e below _ Ty (mkF m 15 #[.val (.ref b), .val (.int (Int32.ofNat i)), .val (.ref dd), .val (.int (Int32.ofNat i)), .val (.int (Int32.ofNat n)), .val (.int (Int32.ofNat i)), .val (.int (f i))] [])
      refine own_go (fun t_ k_ => XS.iload Xy.here hx rfl (hb hby d15_15) rfl k_) ?_
      show own_Go p e below _ Ty (mkF m 17 #[.val (.ref b), .val (.int (Int32.ofNat i)), .val (.ref dd), .val (.int (Int32.ofNat i)), .val (.int (Int32.ofNat n)), .val (.int (Int32.ofNat i)), .val (.int (f i))] [(.int (f i))])
      refine own_go (fun t_ k_ => XS.sipush Xy.here hx rfl (hb hby d15_17) k_) ?_
      show own_Go p e below _ Ty (mkF m 20 #[.val (.ref b), .val (.int (Int32.ofNat i)), .val (.ref dd), .val (.int (Int32.ofNat i)), .val (.int (Int32.ofNat n)), .val (.int (Int32.ofNat i)), .val (.int (f i))] [(.int (255 : Int32)), (.int (f i))])
      by_cases h20 : (255 : Int32) < (f i)
      · show own_Go p e below _ Ty (mkF m 20 #[.val (.ref b), .val (.int (Int32.ofNat i)), .val (.ref dd), .val (.int (Int32.ofNat i)), .val (.int (Int32.ofNat n)), .val (.int (Int32.ofNat i)), .val (.int (f i))] [(.int (255 : Int32)), (.int (f i))])
        refine own_go (fun t_ k_ => XS.icmpNo Xy.here hx rfl (hb hby d15_20) rfl (XT.ii_le_f h20) k_) ?_
        show own_Go p e below _ Ty (mkF m 23 #[.val (.ref b), .val (.int (Int32.ofNat i)), .val (.ref dd), .val (.int (Int32.ofNat i)), .val (.int (Int32.ofNat n)), .val (.int (Int32.ofNat i)), .val (.int (f i))] [])
        refine own_go (fun t_ k_ => XS.iload Xy.here hx rfl (hb hby d15_23) rfl k_) ?_
        show own_Go p e below _ Ty (mkF m 25 #[.val (.ref b), .val (.int (Int32.ofNat i)), .val (.ref dd), .val (.int (Int32.ofNat i)), .val (.int (Int32.ofNat n)), .val (.int (Int32.ofNat i)), .val (.int (f i))] [(.int (Int32.ofNat i))])
        refine own_retI Xy hx hlk hret (hb hby d15_25) (by decide) (by decide) ?_
        exact ⟨⟨i, gg, rfl, by omega, Or.inr ⟨by omega, h20⟩, by rw [ey]; exact ⟨Vn, Kp⟩⟩, Ny⟩
      · show own_Go p e below _ Ty (mkF m 20 #[.val (.ref b), .val (.int (Int32.ofNat i)), .val (.ref dd), .val (.int (Int32.ofNat i)), .val (.int (Int32.ofNat n)), .val (.int (Int32.ofNat i)), .val (.int (f i))] [(.int (255 : Int32)), (.int (f i))])
        refine own_go (fun t_ k_ => XS.icmpYes Xy.here hx rfl (pc0 := 20) (pc' := 26) rfl (hb hby d15_20) rfl (XT.ii_le_t h20) (by decide) (by decide) k_) ?_
        show own_Go p e below _ Ty (mkF m 26 #[.val (.ref b), .val (.int (Int32.ofNat i)), .val (.ref dd), .val (.int (Int32.ofNat i)), .val (.int (Int32.ofNat n)), .val (.int (Int32.ofNat i)), .val (.int (f i))] [])
        refine own_go (fun t_ k_ => XS.aloadN Xy.here hx rfl (hb hby d15_26) rfl rfl k_) ?_
        show own_Go p e below _ Ty (mkF m 27 #[.val (.ref b), .val (.int (Int32.ofNat i)), .val (.ref dd), .val (.int (Int32.ofNat i)), .val (.int (Int32.ofNat n)), .val (.int (Int32.ofNat i)), .val (.int (f i))] [(.ref dd)])
        refine own_go (fun t_ k_ => XS.iloadN Xy.here hx rfl (hb hby d15_27) rfl k_) ?_
        show own_Go p e below _ Ty (mkF m 28 #[.val (.ref b), .val (.int (Int32.ofNat i)), .val (.ref dd), .val (.int (Int32.ofNat i)), .val (.int (Int32.ofNat n)), .val (.int (Int32.ofNat i)), .val (.int (f i))] [(.int (Int32.ofNat i)), (.ref dd)])
        refine own_go (fun t_ k_ => XS.iload Xy.here hx rfl (hb hby d15_28) rfl k_) ?_
        show own_Go p e below _ Ty (mkF m 30 #[.val (.ref b), .val (.int (Int32.ofNat i)), .val (.ref dd), .val (.int (Int32.ofNat i)), .val (.int (Int32.ofNat n)), .val (.int (Int32.ofNat i)), .val (.int (f i))] [(.int (f i)), (.int (Int32.ofNat i)), (.ref dd)])
        refine own_go (fun t_ k_ => XS.i2b Xy.here hx rfl (hb hby d15_30) rfl k_) ?_
        show own_Go p e below _ Ty (mkF m 31 #[.val (.ref b), .val (.int (Int32.ofNat i)), .val (.ref dd), .val (.int (Int32.ofNat i)), .val (.int (Int32.ofNat n)), .val (.int (Int32.ofNat i)), .val (.int (f i))] [(.int (f i).toInt8.toInt32), (.int (Int32.ofNat i)), (.ref dd)])
        obtain ⟨T1, h1, L1, X1, N1, e1, ⟨sl1, v1, W1⟩, V1, st1⟩ := own_stBA Xy hx hZ ey Vn (by omega) i (by omega) (y := (f i).toInt8.toInt32) (own_b8 _) (f' := (fun (x : Nat) => if x = i then (f i).toInt8.toInt32 else gg x)) (fun _ => rfl) Ny gd (Ls := #[.val (.ref b), .val (.int (Int32.ofNat i)), .val (.ref dd), .val (.int (Int32.ofNat i)), .val (.int (Int32.ofNat n)), .val (.int (Int32.ofNat i)), .val (.int (f i))]) (rest := []) (hb hby d15_31)
        have old1 := Oo.wr W1 gd
        have kp1 := Kp.wr W1 (Or.inl (List.mem_of_getElem? (i := 0) rfl))
        refine own_go st1 ?_
        show own_Go p e below _ T1 (mkF m 32 #[.val (.ref b), .val (.int (Int32.ofNat i)), .val (.ref dd), .val (.int (Int32.ofNat i)), .val (.int (Int32.ofNat n)), .val (.int (Int32.ofNat i)), .val (.int (f i))] [])
        refine own_go (fun t_ k_ => XS.iinc X1.here hx rfl (hb hby d15_32) rfl (l' := #[.val (.ref b), .val (.int ((Int32.ofNat i) + (1 : Int32))), .val (.ref dd), .val (.int (Int32.ofNat i)), .val (.int (Int32.ofNat n)), .val (.int (Int32.ofNat i)), .val (.int (f i))]) rfl k_) ?_
        show own_Go p e below _ T1 (mkF m 35 #[.val (.ref b), .val (.int ((Int32.ofNat i) + (1 : Int32))), .val (.ref dd), .val (.int (Int32.ofNat i)), .val (.int (Int32.ofNat n)), .val (.int (Int32.ofNat i)), .val (.int (f i))] [])
        rw [show ((Int32.ofNat i) + (1 : Int32)) = (Int32.ofNat (i + 1)) from own_oAdd i 1]
        show own_Go p e below _ T1 (mkF m 35 #[.val (.ref b), .val (.int (Int32.ofNat (i + 1))), .val (.ref dd), .val (.int (Int32.ofNat i)), .val (.int (Int32.ofNat n)), .val (.int (Int32.ofNat i)), .val (.int (f i))] [])
        refine own_go (fun t_ k_ => XS.iinc X1.here hx rfl (hb hby d15_35) rfl (l' := #[.val (.ref b), .val (.int (Int32.ofNat (i + 1))), .val (.ref dd), .val (.int ((Int32.ofNat i) + (1 : Int32))), .val (.int (Int32.ofNat n)), .val (.int (Int32.ofNat i)), .val (.int (f i))]) rfl k_) ?_
        show own_Go p e below _ T1 (mkF m 38 #[.val (.ref b), .val (.int (Int32.ofNat (i + 1))), .val (.ref dd), .val (.int ((Int32.ofNat i) + (1 : Int32))), .val (.int (Int32.ofNat n)), .val (.int (Int32.ofNat i)), .val (.int (f i))] [])
        rw [show ((Int32.ofNat i) + (1 : Int32)) = (Int32.ofNat (i + 1)) from own_oAdd i 1]
        show own_Go p e below _ T1 (mkF m 38 #[.val (.ref b), .val (.int (Int32.ofNat (i + 1))), .val (.ref dd), .val (.int (Int32.ofNat (i + 1))), .val (.int (Int32.ofNat n)), .val (.int (Int32.ofNat i)), .val (.int (f i))] [])
        refine own_go (fun t_ k_ => XS.iinc X1.here hx rfl (hb hby d15_38) rfl (l' := #[.val (.ref b), .val (.int (Int32.ofNat (i + 1))), .val (.ref dd), .val (.int (Int32.ofNat (i + 1))), .val (.int (Int32.ofNat n)), .val (.int ((Int32.ofNat i) + (1 : Int32))), .val (.int (f i))]) rfl k_) ?_
        show own_Go p e below _ T1 (mkF m 41 #[.val (.ref b), .val (.int (Int32.ofNat (i + 1))), .val (.ref dd), .val (.int (Int32.ofNat (i + 1))), .val (.int (Int32.ofNat n)), .val (.int ((Int32.ofNat i) + (1 : Int32))), .val (.int (f i))] [])
        rw [show ((Int32.ofNat i) + (1 : Int32)) = (Int32.ofNat (i + 1)) from own_oAdd i 1]
        show own_Go p e below _ T1 (mkF m 41 #[.val (.ref b), .val (.int (Int32.ofNat (i + 1))), .val (.ref dd), .val (.int (Int32.ofNat (i + 1))), .val (.int (Int32.ofNat n)), .val (.int (Int32.ofNat (i + 1))), .val (.int (f i))] [])
        refine own_go (fun t_ k_ => XS.goto X1.here hx rfl (pc0 := 41) (pc' := 3) rfl (hb hby d15_41) (by decide) (by decide) k_) ?_
        show own_Go p e below _ T1 (mkF m 3 #[.val (.ref b), .val (.int (Int32.ofNat (i + 1))), .val (.ref dd), .val (.int (Int32.ofNat (i + 1))), .val (.int (Int32.ofNat n)), .val (.int (Int32.ofNat (i + 1))), .val (.int (f i))] [])
        exact ih (i + 1) _ _ _ T1 _ X1 N1 e1 (by omega) (Vb.other W1 ne_b_dd) V1 (fun x hx => by rcases Nat.lt_succ_iff_lt_or_eq.mp hx with q | rfl; exact ha x q; exact h20) kp1 old1 (Or.inr ⟨_, rfl⟩)
  exact lp1 n 0 g1 _ _ T0 _ X0 N0 e0 (by omega) V_b V_d (fun x hx => absurd hx (by omega)) (Keep.refl h0 [dd]) O0 (Or.inl rfl)
set_option maxRecDepth 65536 in
set_option maxHeartbeats 40000000 in
theorem rmCF (l : Launch) (Z : State) (a0 : Array Value) (hw : ∀ d ∈ tables_1, d.before a0 Z = true) (ws : List Jvm.Cond) (vb : Addr) (n q : Nat) (gg : Nat → Int32) (h0 : Heap) (n0 : Nat) (Z0 : n0 ≤ h0.size) (O0 : Old Z n0 h0) (V_v : own_BA Z h0 vb q gg) :
    own_Met l Z (⟨"java/lang/StringUTF16", "coderFromArrayLen", "([BI)B"⟩ : MethodName) jdk_52_method_15_code 2 (some .byte) ws ({ frames := 0, cells := 0, slots := 0, locals := 0 } : Room) #[(.ref vb), (.int (Int32.ofNat n))] h0 (fun v h L => v = some (.int (own_cf n q)) ∧ Fr n0 L ∧ h = h0) := by
  refine own_body (by first | exact plainFor_of_name pn_java_lang_StringUTF16 | decide +kernel) ?_
  intro p e s m below meth c T0 X0 hx hby hml hret hlk hZ hown hnm e0
  have hown : s.vm.findClass "java/lang/StringUTF16" = some m.cls := hown
  have hnm : meth.name = "coderFromArrayLen" := hnm
  have N0 := Fr.nil n0
  rw [ef_16 m vb (Int32.ofNat n)]
  show own_Go p e below _ T0 (mkF m 0 #[.val (.ref vb), .val (.int (Int32.ofNat n))] [])
  refine own_go (fun t_ k_ => XS.iloadN X0.here hx rfl (hb hby d16_0) rfl k_) ?_
  show own_Go p e below _ T0 (mkF m 1 #[.val (.ref vb), .val (.int (Int32.ofNat n))] [(.int (Int32.ofNat n))])
  refine own_go (fun t_ k_ => XS.aloadN X0.here hx rfl (hb hby d16_1) rfl rfl k_) ?_
  show own_Go p e below _ T0 (mkF m 2 #[.val (.ref vb), .val (.int (Int32.ofNat n))] [(.ref vb), (.int (Int32.ofNat n))])
  refine own_go (own_lenBA X0 hx hZ e0 (Ls := #[.val (.ref vb), .val (.int (Int32.ofNat n))]) (rest := [(.int (Int32.ofNat n))]) V_v (hb hby d16_2)) ?_
  show own_Go p e below _ T0 (mkF m 3 #[.val (.ref vb), .val (.int (Int32.ofNat n))] [(.int (Int32.ofNat q)), (.int (Int32.ofNat n))])
  refine own_go (fun t_ k_ => XS.isub X0.here hx rfl (hb hby d16_3) rfl k_) ?_
  show own_Go p e below _ T0 (mkF m 4 #[.val (.ref vb), .val (.int (Int32.ofNat n))] [(.int ((Int32.ofNat n) - (Int32.ofNat q)))])
  refine own_go (fun t_ k_ => XS.bipush X0.here hx rfl (hb hby d16_4) k_) ?_
  show own_Go p e below _ T0 (mkF m 6 #[.val (.ref vb), .val (.int (Int32.ofNat n))] [(.int (31 : Int32)), (.int ((Int32.ofNat n) - (Int32.ofNat q)))])
  refine own_go (fun t_ k_ => XS.iushr X0.here hx rfl (hb hby d16_6) rfl k_) ?_
  show own_Go p e below _ T0 (mkF m 7 #[.val (.ref vb), .val (.int (Int32.ofNat n))] [(.int ((((Int32.ofNat n) - (Int32.ofNat q)).toUInt32 >>> ((31 : Int32) &&& 31).toUInt32).toInt32))])
  refine own_go (fun t_ k_ => XS.i2b X0.here hx rfl (hb hby d16_7) rfl k_) ?_
  show own_Go p e below _ T0 (mkF m 8 #[.val (.ref vb), .val (.int (Int32.ofNat n))] [(.int ((((Int32.ofNat n) - (Int32.ofNat q)).toUInt32 >>> ((31 : Int32) &&& 31).toUInt32).toInt32).toInt8.toInt32)])
  refine own_ret X0 hx hlk hret (hb hby d16_8) (XT.narrow_b _) (Or.inl ⟨rfl, by simp, _, rfl⟩) (by decide) (by decide) ?_
  exact ⟨rfl, N0, e0⟩
set_option maxRecDepth 65536 in
set_option maxHeartbeats 40000000 in
theorem rmC3 (l : Launch) (Z : State) (a0 : Array Value) (hw : ∀ d ∈ tables_1, d.before a0 Z = true) (ws : List Jvm.Cond) (b : Addr) (n : Nat) (f : Nat → Int32) (h0 : Heap) (n0 : Nat) (Z0 : n0 ≤ h0.size) (O0 : Old Z n0 h0) (S_ad : Sta Z Z.heap "java/lang/StringUTF16" "$assertionsDisabled" "Z" (.int (1 : Int32))) (S_hi : Sta Z Z.heap "java/lang/StringUTF16" "HI_BYTE_SHIFT" "I" (.int (0 : Int32))) (S_lo : Sta Z Z.heap "java/lang/StringUTF16" "LO_BYTE_SHIFT" "I" (.int (8 : Int32))) (V_b : own_CA Z h0 b n f) (hc : ∀ x, own_isC (f x)) (hn : n ≤ 6) :
    own_Met l Z (⟨"java/lang/StringUTF16", "compress", "([CII)[B"⟩ : MethodName) jdk_52_method_16_code 6 (some (.array .byte)) ws ({ frames := 3, cells := 2, slots := 18, locals := 40 } : Room) #[(.ref b), (.int (0 : Int32)), (.int (Int32.ofNat n))] h0 (fun v h L => (∃ vb : Addr, v = some (.ref vb) ∧ (((∃ gg, own_BA Z h vb n gg) ∧ ∀ x, x < n → ¬ (255 : Int32) < f x) ∨ (own_BA Z h vb (2 * n) (own_by f) ∧ 0 < n)) ∧ h0.size ≤ vb ∧ Keep h0 h []) ∧ Fr n0 L) := by
  refine own_body (by first | exact plainFor_of_name pn_java_lang_StringUTF16 | decide +kernel) ?_
  intro p e s m below meth c T0 X0 hx hby hml hret hlk hZ hown hnm e0
  have hown : s.vm.findClass "java/lang/StringUTF16" = some m.cls := hown
  have hnm : meth.name = "compress" := hnm
  have N0 := Fr.nil n0
  rw [ef_14 m b (0 : Int32) (Int32.ofNat n)]
  show own_Go p e below _ T0 (mkF m 0 #[.val (.ref b), .val (.int (0 : Int32)), .val (.int (Int32.ofNat n)), .unset, .unset, .unset] [])
  refine own_go (fun t_ k_ => XS.iloadN X0.here hx rfl (hb hby d14_0) rfl k_) ?_
  show own_Go p e below _ T0 (mkF m 1 #[.val (.ref b), .val (.int (0 : Int32)), .val (.int (Int32.ofNat n)), .unset, .unset, .unset] [(.int (Int32.ofNat n))])
  obtain ⟨T1, h1, b1, X1, e1, E1, g1, V1, st1⟩ := own_newBA X0 hx hZ (own_w hw 19 rfl) e0 (Ls := #[.val (.ref b), .val (.int (0 : Int32)), .val (.int (Int32.ofNat n)), .unset, .unset, .unset]) (rest := []) (hb hby d14_1) n 6 (by omega) (by decide) (by decide) (by decide)
  have ge_b1 : n0 ≤ b1 := g1 ▸ own_oldge O0
  have old1 := O0.ext E1
  have kp1 := (Keep.refl h0 []).ext E1
  refine own_go st1 ?_
  show own_Go p e below _ T1 (mkF m 3 #[.val (.ref b), .val (.int (0 : Int32)), .val (.int (Int32.ofNat n)), .unset, .unset, .unset] [(.ref b1)])
  have sz_b1 : h0.size ≤ b1 := Nat.le_of_eq g1.symm
  refine own_go (fun t_ k_ => XS.astoreN X1.here hx rfl (hb hby d14_3) rfl rfl (l' := #[.val (.ref b), .val (.int (0 : Int32)), .val (.int (Int32.ofNat n)), .val (.ref b1), .unset, .unset]) rfl k_) ?_
  show own_Go p e below _ T1 (mkF m 4 #[.val (.ref b), .val (.int (0 : Int32)), .val (.int (Int32.ofNat n)), .val (.ref b1), .unset, .unset] [])
  refine own_go (fun t_ k_ => XS.aloadN X1.here hx rfl (hb hby d14_4) rfl rfl k_) ?_
  show own_Go p e below _ T1 (mkF m 5 #[.val (.ref b), .val (.int (0 : Int32)), .val (.int (Int32.ofNat n)), .val (.ref b1), .unset, .unset] [(.ref b)])
  refine own_go (fun t_ k_ => XS.iloadN X1.here hx rfl (hb hby d14_5) rfl k_) ?_
  show own_Go p e below _ T1 (mkF m 6 #[.val (.ref b), .val (.int (0 : Int32)), .val (.int (Int32.ofNat n)), .val (.ref b1), .unset, .unset] [(.int (0 : Int32)), (.ref b)])
  refine own_go (fun t_ k_ => XS.aloadN X1.here hx rfl (hb hby d14_6) rfl rfl k_) ?_
  show own_Go p e below _ T1 (mkF m 7 #[.val (.ref b), .val (.int (0 : Int32)), .val (.int (Int32.ofNat n)), .val (.ref b1), .unset, .unset] [(.ref b1), (.int (0 : Int32)), (.ref b)])
  refine own_go (fun t_ k_ => XS.iconst X1.here hx rfl (hb hby d14_7) k_) ?_
  show own_Go p e below _ T1 (mkF m 8 #[.val (.ref b), .val (.int (0 : Int32)), .val (.int (Int32.ofNat n)), .val (.ref b1), .unset, .unset] [(.int (0 : Int32)), (.ref b1), (.int (0 : Int32)), (.ref b)])
  refine own_go (fun t_ k_ => XS.iloadN X1.here hx rfl (hb hby d14_8) rfl k_) ?_
  show own_Go p e below _ T1 (mkF m 9 #[.val (.ref b), .val (.int (0 : Int32)), .val (.int (Int32.ofNat n)), .val (.ref b1), .unset, .unset] [(.int (Int32.ofNat n)), (.int (0 : Int32)), (.ref b1), (.int (0 : Int32)), (.ref b)])
  have Vb_a := (V_b.ext E1)
  have V_a := V1
  obtain ⟨_, T2, L2, X2, ⟨⟨r2, gg2, rfl, hr2, dj2, V2, K2⟩, N2⟩, st2⟩ := own_callS X1 hx hZ (y := (⟨"java/lang/StringUTF16", "compress", "([CI[BII)I"⟩ : MethodName)) (argsL := [(.ref b), (.int (0 : Int32)), (.ref b1), (.int (0 : Int32)), (.int (Int32.ofNat n))]) (rest := []) (Ls := #[.val (.ref b), .val (.int (0 : Int32)), .val (.int (Int32.ofNat n)), .val (.ref b1), .unset, .unset]) hown (own_w hw 72 rfl) (own_w hw 73 rfl) (own_w hw 70 rfl) (own_w hw 74 rfl) (by decide) e1 (rmC5 l Z a0 hw [] b b1 n f _ h1 n0 (own_oldge old1) old1 (V_b.ext E1) V1 ge_b1 hn) 0 (by decide) (by decide) (by decide) (by decide) (by rw [hml]; rfl) (lenOf pd_22 rfl) rfl (Nat.le_of_eq rfl) (hb hby d14_9)
  have M2 := Fr.app N0 N2
  have ne_b_b1 : b ≠ b1 := own_CABA Vb_a V_a
  have kV2_b := (V_b.ext E1).keep K2 (ninS ne_b_b1 nin0)
  have old2 := old1.keep K2 (allS ge_b1 all0)
  have kp2 := kp1.trans K2 (allS (Or.inr sz_b1) all0)
  refine own_go st2 ?_
  show own_Go p e below _ T2 (mkF m 12 #[.val (.ref b), .val (.int (0 : Int32)), .val (.int (Int32.ofNat n)), .val (.ref b1), .unset, .unset] [(.int (Int32.ofNat r2))])
  refine own_go (fun t_ k_ => XS.istore X2.here hx rfl (hb hby d14_12) rfl (l' := #[.val (.ref b), .val (.int (0 : Int32)), .val (.int (Int32.ofNat n)), .val (.ref b1), .val (.int (Int32.ofNat r2)), .unset]) rfl k_) ?_
  show own_Go p e below _ T2 (mkF m 14 #[.val (.ref b), .val (.int (0 : Int32)), .val (.int (Int32.ofNat n)), .val (.ref b1), .val (.int (Int32.ofNat r2)), .unset] [])
  refine own_go (fun t_ k_ => XS.iload X2.here hx rfl (hb hby d14_14) rfl k_) ?_
  show own_Go p e below _ T2 (mkF m 16 #[.val (.ref b), .val (.int (0 : Int32)), .val (.int (Int32.ofNat n)), .val (.ref b1), .val (.int (Int32.ofNat r2)), .unset] [(.int (Int32.ofNat r2))])
  refine own_go (fun t_ k_ => XS.iloadN X2.here hx rfl (hb hby d14_16) rfl k_) ?_
  show own_Go p e below _ T2 (mkF m 17 #[.val (.ref b), .val (.int (0 : Int32)), .val (.int (Int32.ofNat n)), .val (.ref b1), .val (.int (Int32.ofNat r2)), .unset] [(.int (Int32.ofNat n)), (.int (Int32.ofNat r2))])
  by_cases hrn : r2 = n
  · show own_Go p e below _ T2 (mkF m 17 #[.val (.ref b), .val (.int (0 : Int32)), .val (.int (Int32.ofNat n)), .val (.ref b1), .val (.int (Int32.ofNat r2)), .unset] [(.int (Int32.ofNat n)), (.int (Int32.ofNat r2))])
    refine own_go (fun t_ k_ => XS.icmpYes X2.here hx rfl (pc0 := 17) (pc' := 57) rfl (hb hby d14_17) rfl (XT.ii_eq_t ((own_oEq (by omega) (by omega)).mpr hrn)) (by decide) (by decide) k_) ?_
    show own_Go p e below _ T2 (mkF m 57 #[.val (.ref b), .val (.int (0 : Int32)), .val (.int (Int32.ofNat n)), .val (.ref b1), .val (.int (Int32.ofNat r2)), .unset] [])
    refine own_go (fun t_ k_ => XS.aloadN X2.here hx rfl (hb hby d14_57) rfl rfl k_) ?_
    show own_Go p e below _ T2 (mkF m 58 #[.val (.ref b), .val (.int (0 : Int32)), .val (.int (Int32.ofNat n)), .val (.ref b1), .val (.int (Int32.ofNat r2)), .unset] [(.ref b1)])
    refine own_retA X2 hx hlk hret (hb hby d14_58) rfl rfl (by decide) (by decide) ?_
    exact ⟨⟨b1, rfl, by exact ⟨Or.inl ⟨⟨_, V2⟩, by rcases dj2 with q | q; exact q.2; exact absurd hrn (by omega)⟩, sz_b1, kp2⟩⟩, M2⟩
  · show own_Go p e below _ T2 (mkF m 17 #[.val (.ref b), .val (.int (0 : Int32)), .val (.int (Int32.ofNat n)), .val (.ref b1), .val (.int (Int32.ofNat r2)), .unset] [(.int (Int32.ofNat n)), (.int (Int32.ofNat r2))])
    refine own_go (fun t_ k_ => XS.icmpNo X2.here hx rfl (hb hby d14_17) rfl (XT.ii_eq_f (fun q => hrn ((own_oEq (by omega) (by omega)).mp q))) k_) ?_
    show own_Go p e below _ T2 (mkF m 20 #[.val (.ref b), .val (.int (0 : Int32)), .val (.int (Int32.ofNat n)), .val (.ref b1), .val (.int (Int32.ofNat r2)), .unset] [])
    have hlt : r2 < n := by rcases dj2 with q | q; exact absurd q.1 hrn; exact q.1
    have h255 : (255 : Int32) < f r2 := by rcases dj2 with q | q; exact absurd q.1 hrn; exact q.2
    refine own_go (fun t_ k_ => XS.aloadN X2.here hx rfl (hb hby d14_20) rfl rfl k_) ?_
    show own_Go p e below _ T2 (mkF m 21 #[.val (.ref b), .val (.int (0 : Int32)), .val (.int (Int32.ofNat n)), .val (.ref b1), .val (.int (Int32.ofNat r2)), .unset] [(.ref b)])
    refine own_go (fun t_ k_ => XS.iloadN X2.here hx rfl (hb hby d14_21) rfl k_) ?_
    show own_Go p e below _ T2 (mkF m 22 #[.val (.ref b), .val (.int (0 : Int32)), .val (.int (Int32.ofNat n)), .val (.ref b1), .val (.int (Int32.ofNat r2)), .unset] [(.int (0 : Int32)), (.ref b)])
    refine own_go (fun t_ k_ => XS.iloadN X2.here hx rfl (hb hby d14_22) rfl k_) ?_
    show own_Go p e below _ T2 (mkF m 23 #[.val (.ref b), .val (.int (0 : Int32)), .val (.int (Int32.ofNat n)), .val (.ref b1), .val (.int (Int32.ofNat r2)), .unset] [(.int (Int32.ofNat n)), (.int (0 : Int32)), (.ref b)])
    have kp_a := kp2
    obtain ⟨_, T3, L3, X3, ⟨⟨nb3, rfl, V3, szt3, K3⟩, N3⟩, st3⟩ := own_callS X2 hx hZ (y := (⟨"java/lang/StringUTF16", "toBytes", "([CII)[B"⟩ : MethodName)) (argsL := [(.ref b), (.int (0 : Int32)), (.int (Int32.ofNat n))]) (rest := []) (Ls := #[.val (.ref b), .val (.int (0 : Int32)), .val (.int (Int32.ofNat n)), .val (.ref b1), .val (.int (Int32.ofNat r2)), .unset]) hown (own_w hw 81 rfl) (own_w hw 82 rfl) (own_w hw 70 rfl) (own_w hw 83 rfl) (by decide) rfl (rmTB l Z a0 hw [] b n f T2.heap n0 (own_oldge old2) old2 S_ad S_hi S_lo kV2_b hn) 0 (by decide) (by decide) (by decide) (by decide) (by rw [hml]; rfl) (lenOf pd_19 rfl) rfl (Nat.le_of_eq rfl) (hb hby d14_23)
    have M3 := Fr.app M2 N3
    have kV3_b := kV2_b.keep K3 nin0
    have kV3_b1 := V2.keep K3 nin0
    have old3 := old2.keep K3 all0
    have kp3 := kp2.trans K3 all0
    have sz_nb3 : h0.size ≤ nb3 := Nat.le_trans kp_a.1 szt3
    refine own_go st3 ?_
    show own_Go p e below _ T3 (mkF m 26 #[.val (.ref b), .val (.int (0 : Int32)), .val (.int (Int32.ofNat n)), .val (.ref b1), .val (.int (Int32.ofNat r2)), .unset] [(.ref nb3)])
    refine own_go (fun t_ k_ => XS.astore X3.here hx rfl (hb hby d14_26) rfl rfl (l' := #[.val (.ref b), .val (.int (0 : Int32)), .val (.int (Int32.ofNat n)), .val (.ref b1), .val (.int (Int32.ofNat r2)), .val (.ref nb3)]) rfl k_) ?_
    show own_Go p e below _ T3 (mkF m 28 #[.val (.ref b), .val (.int (0 : Int32)), .val (.int (Int32.ofNat n)), .val (.ref b1), .val (.int (Int32.ofNat r2)), .val (.ref nb3)] [])
    refine own_go (fun t_ k_ => XS.aload X3.here hx rfl (hb hby d14_28) rfl rfl k_) ?_
    show own_Go p e below _ T3 (mkF m 30 #[.val (.ref b), .val (.int (0 : Int32)), .val (.int (Int32.ofNat n)), .val (.ref b1), .val (.int (Int32.ofNat r2)), .val (.ref nb3)] [(.ref nb3)])
    refine own_go (fun t_ k_ => XS.iload X3.here hx rfl (hb hby d14_30) rfl k_) ?_
    show own_Go p e below _ T3 (mkF m 32 #[.val (.ref b), .val (.int (0 : Int32)), .val (.int (Int32.ofNat n)), .val (.ref b1), .val (.int (Int32.ofNat r2)), .val (.ref nb3)] [(.int (Int32.ofNat r2)), (.ref nb3)])
    obtain ⟨_, T4, L4, X4, ⟨rfl, N4, e4⟩, st4⟩ := own_callS X3 hx hZ (y := (⟨"java/lang/StringUTF16", "getChar", "([BI)C"⟩ : MethodName)) (argsL := [(.ref nb3), (.int (Int32.ofNat r2))]) (rest := []) (Ls := #[.val (.ref b), .val (.int (0 : Int32)), .val (.int (Int32.ofNat n)), .val (.ref b1), .val (.int (Int32.ofNat r2)), .val (.ref nb3)]) hown (own_w hw 97 rfl) (own_w hw 98 rfl) (own_w hw 70 rfl) (own_w hw 99 rfl) (by decide) rfl (rmGC l Z a0 hw [] nb3 n r2 f T3.heap n0 (own_oldge old3) old3 S_ad S_hi S_lo V3 (by omega) hn (hc _)) 0 (by decide) (by decide) (by decide) (by decide) (by rw [hml]; rfl) (lenOf pd_13 rfl) rfl (Nat.le_of_eq rfl) (hb hby d14_32)
    have M4 := Fr.app M3 N4
    refine own_go st4 ?_
    show own_Go p e below _ T4 (mkF m 35 #[.val (.ref b), .val (.int (0 : Int32)), .val (.int (Int32.ofNat n)), .val (.ref b1), .val (.int (Int32.ofNat r2)), .val (.ref nb3)] [(.int (f r2))])
    refine own_go (fun t_ k_ => XS.sipush X4.here hx rfl (hb hby d14_35) k_) ?_
    show own_Go p e below _ T4 (mkF m 38 #[.val (.ref b), .val (.int (0 : Int32)), .val (.int (Int32.ofNat n)), .val (.ref b1), .val (.int (Int32.ofNat r2)), .val (.ref nb3)] [(.int (255 : Int32)), (.int (f r2))])
    refine own_go (fun t_ k_ => XS.icmpYes X4.here hx rfl (pc0 := 38) (pc' := 54) rfl (hb hby d14_38) rfl (XT.ii_gt_t h255) (by decide) (by decide) k_) ?_
    show own_Go p e below _ T4 (mkF m 54 #[.val (.ref b), .val (.int (0 : Int32)), .val (.int (Int32.ofNat n)), .val (.ref b1), .val (.int (Int32.ofNat r2)), .val (.ref nb3)] [])
    refine own_go (fun t_ k_ => XS.aload X4.here hx rfl (hb hby d14_54) rfl rfl k_) ?_
    show own_Go p e below _ T4 (mkF m 56 #[.val (.ref b), .val (.int (0 : Int32)), .val (.int (Int32.ofNat n)), .val (.ref b1), .val (.int (Int32.ofNat r2)), .val (.ref nb3)] [(.ref nb3)])
    refine own_retA X4 hx hlk hret (hb hby d14_56) rfl rfl (by decide) (by decide) ?_
    exact ⟨⟨nb3, rfl, by rw [e4]; exact ⟨Or.inr ⟨V3, by omega⟩, sz_nb3, kp3⟩⟩, M4⟩
set_option maxRecDepth 65536 in
set_option maxHeartbeats 40000000 in
theorem rmI4 (l : Launch) (Z : State) (a0 : Array Value) (hw : ∀ d ∈ tables_1, d.before a0 Z = true) (ws : List Jvm.Cond) (a1 b : Addr) (n : Nat) (f : Nat → Int32) (cs : Int32) (h0 : Heap) (n0 : Nat) (Z0 : n0 ≤ h0.size) (O0 : Old Z n0 h0) (S_ad : Sta Z Z.heap "java/lang/StringUTF16" "$assertionsDisabled" "Z" (.int (1 : Int32))) (S_hi : Sta Z Z.heap "java/lang/StringUTF16" "HI_BYTE_SHIFT" "I" (.int (0 : Int32))) (S_lo : Sta Z Z.heap "java/lang/StringUTF16" "LO_BYTE_SHIFT" "I" (.int (8 : Int32))) (S_cs : Sta Z Z.heap "java/lang/String" "COMPACT_STRINGS" "Z" (.int cs)) (hcs : ¬ cs = 0) (hH : Jvm.Lit.constHeld Z "java/lang/String" 7) (hcw : Jvm.Lit.compactW.before a0 Z = true) (E_a : Exa Z h0 a1 "java/lang/String") (F_v : Fld Z h0 a1 "java/lang/String" "value" "[B" .null) (F_c : Fld Z h0 a1 "java/lang/String" "coder" "B" (.int (0 : Int32))) (g1 : n0 ≤ a1) (V_b : own_CA Z h0 b n f) (hc : ∀ x, own_isC (f x)) (hn : n ≤ 6) :
    own_MetW l Z (⟨"java/lang/String", "<init>", "([CIILjava/lang/Void;)V"⟩ : MethodName) jdk_42_method_149_code 6 none ws ({ frames := 4, cells := 2, slots := 18, locals := 57 } : Room) #[(.ref a1), (.ref b), (.int (0 : Int32)), (.int (Int32.ofNat n)), .null] h0 (fun v h L => v = none ∧ Fr n0 L ∧ Keep h0 h [a1] ∧ own_STR Z h a1 n f) := by
  refine own_bodyW (by first | exact plainFor_of_name pn_java_lang_String | decide +kernel) ?_
  intro p e s m below meth c T0 X0 hx hby hml hret hlk hZH hown hnm e0 hs0
  have hZ := hZH.wide
  have hown : s.vm.findClass "java/lang/String" = some m.cls := hown
  have hnm : meth.name = "<init>" := hnm
  have N0 := Fr.nil n0
  rw [ef_3 m a1 b (0 : Int32) (Int32.ofNat n)]
  show own_Go p e below _ T0 (mkF m 0 #[.val (.ref a1), .val (.ref b), .val (.int (0 : Int32)), .val (.int (Int32.ofNat n)), .val .null, .unset] [])
  refine own_go (fun t_ k_ => XS.aloadN X0.here hx rfl (hb hby d3_0) rfl rfl k_) ?_
  show own_Go p e below _ T0 (mkF m 1 #[.val (.ref a1), .val (.ref b), .val (.int (0 : Int32)), .val (.int (Int32.ofNat n)), .val .null, .unset] [(.ref a1)])
  obtain ⟨T1, X1, e1, st1⟩ := initO X0 hx hZ hown (own_w hw 15 rfl) (own_w hw 16 rfl) (own_w hw 17 rfl) e0 (g := (mkF m 1 #[.val (.ref a1), .val (.ref b), .val (.int (0 : Int32)), .val (.int (Int32.ofNat n)), .val .null, .unset] [(.ref a1)])) rfl (by rw [hml]; rfl) rfl (hb hby d3_1) (by decide) (W := 0) (by show 2 * 0 + _ ≤ _; exact Nat.le_of_eq rfl) (by decide)
  refine own_go st1 ?_
  show own_Go p e below _ T1 (mkF m 4 #[.val (.ref a1), .val (.ref b), .val (.int (0 : Int32)), .val (.int (Int32.ofNat n)), .val .null, .unset] [])
  refine own_go (fun t_ k_ => XS.iloadN X1.here hx rfl (hb hby d3_4) rfl k_) ?_
  show own_Go p e below _ T1 (mkF m 5 #[.val (.ref a1), .val (.ref b), .val (.int (0 : Int32)), .val (.int (Int32.ofNat n)), .val .null, .unset] [(.int (Int32.ofNat n))])
  by_cases hz : n = 0
  · show own_Go p e below _ T1 (mkF m 5 #[.val (.ref a1), .val (.ref b), .val (.int (0 : Int32)), .val (.int (Int32.ofNat n)), .val .null, .unset] [(.int (Int32.ofNat n))])
    refine own_go (fun t_ k_ => XS.ifNo X1.here hx rfl (hb hby d3_5) rfl (XT.i0_ne_f ((own_oEq (b := 0) (by omega) (by omega)).mpr hz)) k_) ?_
    show own_Go p e below _ T1 (mkF m 8 #[.val (.ref a1), .val (.ref b), .val (.int (0 : Int32)), .val (.int (Int32.ofNat n)), .val .null, .unset] [])
    refine own_go (fun t_ k_ => XS.aloadN X1.here hx rfl (hb hby d3_8) rfl rfl k_) ?_
    show own_Go p e below _ T1 (mkF m 9 #[.val (.ref a1), .val (.ref b), .val (.int (0 : Int32)), .val (.int (Int32.ofNat n)), .val .null, .unset] [(.ref a1)])
    obtain ⟨lt2, T2, h2, k2, bb2, X2, e2, E2, hS2, hk2, hZ, hown, A2, Fc2, Fv2, V2, Li2, st2⟩ := own_ldcE X1 hx hZH hown (own_w hw 18 rfl) (own_str hw) e1 (Fr.nil _) (by rw [hs0]; exact O0.2) hH hcw (Ls := #[.val (.ref a1), .val (.ref b), .val (.int (0 : Int32)), .val (.int (Int32.ofNat n)), .val .null, .unset]) (rest := [(.ref a1)]) (hb hby d3_9) (by decide) (by decide)
    have old2 := O0.ext E2
    have kp2 := (Keep.refl h0 [a1]).ext E2
    have ne_lt2_a1 : lt2 ≠ a1 := Fld.ne Fv2 (F_v.ext E2) (by intro q; cases q)
    have ne_bb2_a1 : bb2 ≠ a1 := Ne.symm (own_exaBA (E_a.ext E2) V2 (own_w hw 6 rfl))
    refine own_go st2 ?_
    show own_Go p e below _ T2 (mkF m 11 #[.val (.ref a1), .val (.ref b), .val (.int (0 : Int32)), .val (.int (Int32.ofNat n)), .val .null, .unset] [(.ref lt2), (.ref a1)])
    obtain ⟨T3, X3, e3, st3⟩ := getF X2 hx hZ hown (host := "") (Or.inl (own_w hw 24 rfl)) Via.refl e2 Fv2 (g := (mkF m 11 #[.val (.ref a1), .val (.ref b), .val (.int (0 : Int32)), .val (.int (Int32.ofNat n)), .val .null, .unset] [(.ref lt2), (.ref a1)])) rfl rfl (hb hby d3_11)
    refine own_go st3 ?_
    show own_Go p e below _ T3 (mkF m 14 #[.val (.ref a1), .val (.ref b), .val (.int (0 : Int32)), .val (.int (Int32.ofNat n)), .val .null, .unset] [(.ref bb2), (.ref a1)])
    obtain ⟨T4, h4, L4, X4, N4, e4, W4, G4, st4⟩ := own_putF X3 hx hZ hown (v := (.ref bb2)) (host := "") (Or.inl (own_w hw 24 rfl)) Via.refl e3 (F_v.ext E2) (E_a.ext E2) (Or.inr ⟨(own_w hw 20 rfl), rfl, hnm⟩) (own_w hw 6 rfl) (.array .byte) (by decide) rfl rfl N0 g1 (Ls := #[.val (.ref a1), .val (.ref b), .val (.int (0 : Int32)), .val (.int (Int32.ofNat n)), .val .null, .unset]) (rest := []) (hb hby d3_14)
    have H4_coder := (F_c.ext E2).other W4 (Or.inr (slot_ne (Or.inr (own_w hw 21 rfl)) (Or.inr (own_w hw 20 rfl)) (by decide) (t := .byte) (t' := (.array .byte)) (by decide) (by decide)))
    have H4_lt2_value := Fv2.other W4 (Or.inl ne_lt2_a1)
    have H4_lt2_coder := Fc2.other W4 (Or.inl ne_lt2_a1)
    have old4 := old2.wr W4 g1
    have kp4 := kp2.wr W4 (Or.inl (List.mem_of_getElem? (i := 0) rfl))
    refine own_go st4 ?_
    show own_Go p e below _ T4 (mkF m 17 #[.val (.ref a1), .val (.ref b), .val (.int (0 : Int32)), .val (.int (Int32.ofNat n)), .val .null, .unset] [])
    refine own_go (fun t_ k_ => XS.aloadN X4.here hx rfl (hb hby d3_17) rfl rfl k_) ?_
    show own_Go p e below _ T4 (mkF m 18 #[.val (.ref a1), .val (.ref b), .val (.int (0 : Int32)), .val (.int (Int32.ofNat n)), .val .null, .unset] [(.ref a1)])
    refine own_go (ldcAgain X4 hx hZ hown (own_w hw 18 rfl) Li2 (g := (mkF m 18 #[.val (.ref a1), .val (.ref b), .val (.int (0 : Int32)), .val (.int (Int32.ofNat n)), .val .null, .unset] [(.ref a1)])) rfl (hb hby d3_18)) ?_
    show own_Go p e below _ T4 (mkF m 20 #[.val (.ref a1), .val (.ref b), .val (.int (0 : Int32)), .val (.int (Int32.ofNat n)), .val .null, .unset] [(.ref lt2), (.ref a1)])
    obtain ⟨T5, X5, e5, st5⟩ := getF X4 hx hZ hown (host := "") (Or.inl (own_w hw 25 rfl)) Via.refl e4 H4_lt2_coder (g := (mkF m 20 #[.val (.ref a1), .val (.ref b), .val (.int (0 : Int32)), .val (.int (Int32.ofNat n)), .val .null, .unset] [(.ref lt2), (.ref a1)])) rfl rfl (hb hby d3_20)
    refine own_go st5 ?_
    show own_Go p e below _ T5 (mkF m 23 #[.val (.ref a1), .val (.ref b), .val (.int (0 : Int32)), .val (.int (Int32.ofNat n)), .val .null, .unset] [(.int (0 : Int32)), (.ref a1)])
    obtain ⟨T6, h6, L6, X6, N6, e6, W6, G6, st6⟩ := own_putF X5 hx hZ hown (v := (.int (0 : Int32))) (host := "") (Or.inl (own_w hw 25 rfl)) Via.refl e5 H4_coder ((E_a.ext E2).wr W4) (Or.inr ⟨(own_w hw 21 rfl), rfl, hnm⟩) (own_w hw 6 rfl) .byte (by decide) rfl rfl N4 g1 (Ls := #[.val (.ref a1), .val (.ref b), .val (.int (0 : Int32)), .val (.int (Int32.ofNat n)), .val .null, .unset]) (rest := []) (hb hby d3_23)
    have H6_value := G4.other W6 (Or.inr (slot_ne (Or.inr (own_w hw 20 rfl)) (Or.inr (own_w hw 21 rfl)) (by decide) (t := (.array .byte)) (t' := .byte) (by decide) (by decide)))
    have H6_lt2_value := H4_lt2_value.other W6 (Or.inl ne_lt2_a1)
    have H6_lt2_coder := H4_lt2_coder.other W6 (Or.inl ne_lt2_a1)
    have old6 := old4.wr W6 g1
    have kp6 := kp4.wr W6 (Or.inl (List.mem_of_getElem? (i := 0) rfl))
    refine own_go st6 ?_
    show own_Go p e below _ T6 (mkF m 26 #[.val (.ref a1), .val (.ref b), .val (.int (0 : Int32)), .val (.int (Int32.ofNat n)), .val .null, .unset] [])
    refine own_retVW X6 hS2 (by rw [e6]; exact (Nat.le_trans (Nat.le_trans hk2 (Keep.of_wr W4).1) (Keep.of_wr W6).1)) hx hlk hret (hb hby d3_26) (by decide) (by decide) ?_
    exact ⟨rfl, N6, by rw [e6]; exact ⟨kp6, ⟨bb2, (((E_a.ext E2).wr W4).wr W6), H6_value, Or.inl ⟨G6, ⟨_, by rw [hz]; exact ((V2.other W4 ne_bb2_a1).other W6 ne_bb2_a1)⟩, fun x hx => absurd hx (by omega)⟩⟩⟩⟩
  · show own_Go p e below _ T1 (mkF m 5 #[.val (.ref a1), .val (.ref b), .val (.int (0 : Int32)), .val (.int (Int32.ofNat n)), .val .null, .unset] [(.int (Int32.ofNat n))])
    refine own_go (fun t_ k_ => XS.ifYes X1.here hx rfl (pc0 := 5) (pc' := 27) rfl (hb hby d3_5) rfl (XT.i0_ne_t (fun q => hz ((own_oEq (b := 0) (by omega) (by omega)).mp q))) (by decide) (by decide) k_) ?_
    show own_Go p e below _ T1 (mkF m 27 #[.val (.ref a1), .val (.ref b), .val (.int (0 : Int32)), .val (.int (Int32.ofNat n)), .val .null, .unset] [])
    obtain ⟨T7, X7, e7, st7⟩ := getS2 X1 hx hZ hown (host := "") (Or.inl (own_w hw 45 rfl)) Via.refl e1 (S_cs.ext O0.2) (g := (mkF m 27 #[.val (.ref a1), .val (.ref b), .val (.int (0 : Int32)), .val (.int (Int32.ofNat n)), .val .null, .unset] [])) rfl (hb hby d3_27)
    refine own_go st7 ?_
    show own_Go p e below _ T7 (mkF m 30 #[.val (.ref a1), .val (.ref b), .val (.int (0 : Int32)), .val (.int (Int32.ofNat n)), .val .null, .unset] [(.int cs)])
    refine own_go (fun t_ k_ => XS.ifNo X7.here hx rfl (hb hby d3_30) rfl (XT.i0_eq_f hcs) k_) ?_
    show own_Go p e below _ T7 (mkF m 33 #[.val (.ref a1), .val (.ref b), .val (.int (0 : Int32)), .val (.int (Int32.ofNat n)), .val .null, .unset] [])
    refine own_go (fun t_ k_ => XS.aloadN X7.here hx rfl (hb hby d3_33) rfl rfl k_) ?_
    show own_Go p e below _ T7 (mkF m 34 #[.val (.ref a1), .val (.ref b), .val (.int (0 : Int32)), .val (.int (Int32.ofNat n)), .val .null, .unset] [(.ref b)])
    refine own_go (fun t_ k_ => XS.iloadN X7.here hx rfl (hb hby d3_34) rfl k_) ?_
    show own_Go p e below _ T7 (mkF m 35 #[.val (.ref a1), .val (.ref b), .val (.int (0 : Int32)), .val (.int (Int32.ofNat n)), .val .null, .unset] [(.int (0 : Int32)), (.ref b)])
    refine own_go (fun t_ k_ => XS.iloadN X7.here hx rfl (hb hby d3_35) rfl k_) ?_
    show own_Go p e below _ T7 (mkF m 36 #[.val (.ref a1), .val (.ref b), .val (.int (0 : Int32)), .val (.int (Int32.ofNat n)), .val .null, .unset] [(.int (Int32.ofNat n)), (.int (0 : Int32)), (.ref b)])
    obtain ⟨_, T8, L8, X8, ⟨⟨vb8, rfl, dj8, szv8, K8⟩, N8⟩, st8⟩ := own_callS X7 hx hZ (y := (⟨"java/lang/StringUTF16", "compress", "([CII)[B"⟩ : MethodName)) (argsL := [(.ref b), (.int (0 : Int32)), (.int (Int32.ofNat n))]) (rest := []) (Ls := #[.val (.ref a1), .val (.ref b), .val (.int (0 : Int32)), .val (.int (Int32.ofNat n)), .val .null, .unset]) hown (own_w hw 68 rfl) (own_w hw 69 rfl) (own_w hw 70 rfl) (own_w hw 71 rfl) (by decide) e7 (rmC3 l Z a0 hw [] b n f h0 n0 (own_oldge O0) O0 S_ad S_hi S_lo V_b hc hn) 0 (by decide) (by decide) (by decide) (by decide) (by rw [hml]; rfl) (lenOf pd_19 rfl) rfl (Nat.le_of_eq rfl) (hb hby d3_36)
    have M8 := Fr.app N0 N8
    have kE8_a1 := E_a.keep K8
    have kF8_a1_value := F_v.keep K8 nin0
    have kF8_a1_coder := F_c.keep K8 nin0
    have kV8_b := V_b.keep K8 nin0
    have old8 := O0.keep K8 all0
    have kp8 := (Keep.refl h0 [a1]).trans K8 all0
    refine own_go st8 ?_
    show own_Go p e below _ T8 (mkF m 39 #[.val (.ref a1), .val (.ref b), .val (.int (0 : Int32)), .val (.int (Int32.ofNat n)), .val .null, .unset] [(.ref vb8)])
    have ne_vb8_a1 : vb8 ≠ a1 := fun q => absurd E_a.lt (by rw [← q]; exact Nat.not_lt.mpr szv8)
    rcases dj8 with ⟨⟨gv, Vv⟩, hv⟩ | ⟨Vv, hv⟩
    · show own_Go p e below _ T8 (mkF m 39 #[.val (.ref a1), .val (.ref b), .val (.int (0 : Int32)), .val (.int (Int32.ofNat n)), .val .null, .unset] [(.ref vb8)])
      refine own_go (fun t_ k_ => XS.astore X8.here hx rfl (hb hby d3_39) rfl rfl (l' := #[.val (.ref a1), .val (.ref b), .val (.int (0 : Int32)), .val (.int (Int32.ofNat n)), .val .null, .val (.ref vb8)]) rfl k_) ?_
      show own_Go p e below _ T8 (mkF m 41 #[.val (.ref a1), .val (.ref b), .val (.int (0 : Int32)), .val (.int (Int32.ofNat n)), .val .null, .val (.ref vb8)] [])
      refine own_go (fun t_ k_ => XS.aloadN X8.here hx rfl (hb hby d3_41) rfl rfl k_) ?_
      show own_Go p e below _ T8 (mkF m 42 #[.val (.ref a1), .val (.ref b), .val (.int (0 : Int32)), .val (.int (Int32.ofNat n)), .val .null, .val (.ref vb8)] [(.ref a1)])
      refine own_go (fun t_ k_ => XS.aload X8.here hx rfl (hb hby d3_42) rfl rfl k_) ?_
      show own_Go p e below _ T8 (mkF m 44 #[.val (.ref a1), .val (.ref b), .val (.int (0 : Int32)), .val (.int (Int32.ofNat n)), .val .null, .val (.ref vb8)] [(.ref vb8), (.ref a1)])
      refine own_go (fun t_ k_ => XS.iloadN X8.here hx rfl (hb hby d3_44) rfl k_) ?_
      show own_Go p e below _ T8 (mkF m 45 #[.val (.ref a1), .val (.ref b), .val (.int (0 : Int32)), .val (.int (Int32.ofNat n)), .val .null, .val (.ref vb8)] [(.int (Int32.ofNat n)), (.ref vb8), (.ref a1)])
      obtain ⟨_, T9, L9, X9, ⟨rfl, N9, e9⟩, st9⟩ := own_callS X8 hx hZ (y := (⟨"java/lang/StringUTF16", "coderFromArrayLen", "([BI)B"⟩ : MethodName)) (argsL := [(.ref vb8), (.int (Int32.ofNat n))]) (rest := [(.ref a1)]) (Ls := #[.val (.ref a1), .val (.ref b), .val (.int (0 : Int32)), .val (.int (Int32.ofNat n)), .val .null, .val (.ref vb8)]) hown (own_w hw 75 rfl) (own_w hw 76 rfl) (own_w hw 70 rfl) (own_w hw 77 rfl) (by decide) rfl (rmCF l Z a0 hw [] vb8 n n _ T8.heap n0 (own_oldge old8) old8 Vv) 1 (by decide) (by decide) (by decide) (by decide) (by rw [hml]; rfl) (lenOf pd_12 rfl) rfl (Nat.le_of_eq rfl) (hb hby d3_45)
      have M9 := Fr.app M8 N9
      refine own_go st9 ?_
      show own_Go p e below _ T9 (mkF m 48 #[.val (.ref a1), .val (.ref b), .val (.int (0 : Int32)), .val (.int (Int32.ofNat n)), .val .null, .val (.ref vb8)] [(.int (own_cf n n)), (.ref a1)])
      rw [show (own_cf n n) = (0 : Int32) from own_cf0 n]
      show own_Go p e below _ T9 (mkF m 48 #[.val (.ref a1), .val (.ref b), .val (.int (0 : Int32)), .val (.int (Int32.ofNat n)), .val .null, .val (.ref vb8)] [(.int (0 : Int32)), (.ref a1)])
      obtain ⟨T10, h10, L10, X10, N10, e10, W10, G10, st10⟩ := own_putF X9 hx hZ hown (v := (.int (0 : Int32))) (host := "") (Or.inl (own_w hw 25 rfl)) Via.refl e9 kF8_a1_coder kE8_a1 (Or.inr ⟨(own_w hw 21 rfl), rfl, hnm⟩) (own_w hw 6 rfl) .byte (by decide) rfl rfl M9 g1 (Ls := #[.val (.ref a1), .val (.ref b), .val (.int (0 : Int32)), .val (.int (Int32.ofNat n)), .val .null, .val (.ref vb8)]) (rest := []) (hb hby d3_48)
      have H10_value := kF8_a1_value.other W10 (Or.inr (slot_ne (Or.inr (own_w hw 20 rfl)) (Or.inr (own_w hw 21 rfl)) (by decide) (t := (.array .byte)) (t' := .byte) (by decide) (by decide)))
      have old10 := old8.wr W10 g1
      have kp10 := kp8.wr W10 (Or.inl (List.mem_of_getElem? (i := 0) rfl))
      refine own_go st10 ?_
      show own_Go p e below _ T10 (mkF m 51 #[.val (.ref a1), .val (.ref b), .val (.int (0 : Int32)), .val (.int (Int32.ofNat n)), .val .null, .val (.ref vb8)] [])
      refine own_go (fun t_ k_ => XS.aloadN X10.here hx rfl (hb hby d3_51) rfl rfl k_) ?_
      show own_Go p e below _ T10 (mkF m 52 #[.val (.ref a1), .val (.ref b), .val (.int (0 : Int32)), .val (.int (Int32.ofNat n)), .val .null, .val (.ref vb8)] [(.ref a1)])
      refine own_go (fun t_ k_ => XS.aload X10.here hx rfl (hb hby d3_52) rfl rfl k_) ?_
      show own_Go p e below _ T10 (mkF m 54 #[.val (.ref a1), .val (.ref b), .val (.int (0 : Int32)), .val (.int (Int32.ofNat n)), .val .null, .val (.ref vb8)] [(.ref vb8), (.ref a1)])
      obtain ⟨T11, h11, L11, X11, N11, e11, W11, G11, st11⟩ := own_putF X10 hx hZ hown (v := (.ref vb8)) (host := "") (Or.inl (own_w hw 24 rfl)) Via.refl e10 H10_value (kE8_a1.wr W10) (Or.inr ⟨(own_w hw 20 rfl), rfl, hnm⟩) (own_w hw 6 rfl) (.array .byte) (by decide) rfl rfl N10 g1 (Ls := #[.val (.ref a1), .val (.ref b), .val (.int (0 : Int32)), .val (.int (Int32.ofNat n)), .val .null, .val (.ref vb8)]) (rest := []) (hb hby d3_54)
      have H11_coder := G10.other W11 (Or.inr (slot_ne (Or.inr (own_w hw 21 rfl)) (Or.inr (own_w hw 20 rfl)) (by decide) (t := .byte) (t' := (.array .byte)) (by decide) (by decide)))
      have old11 := old10.wr W11 g1
      have kp11 := kp10.wr W11 (Or.inl (List.mem_of_getElem? (i := 0) rfl))
      refine own_go st11 ?_
      show own_Go p e below _ T11 (mkF m 57 #[.val (.ref a1), .val (.ref b), .val (.int (0 : Int32)), .val (.int (Int32.ofNat n)), .val .null, .val (.ref vb8)] [])
      refine own_retVW (own_wd X11) (own_wS s _) (Nat.le_refl _) hx hlk hret (hb hby d3_57) (by decide) (by decide) ?_
      exact ⟨rfl, N11, by rw [e11]; exact ⟨kp11, ⟨vb8, ((kE8_a1.wr W10).wr W11), G11, Or.inl ⟨H11_coder, ⟨_, ((Vv.other W10 ne_vb8_a1).other W11 ne_vb8_a1)⟩, hv⟩⟩⟩⟩
    · show own_Go p e below _ T8 (mkF m 39 #[.val (.ref a1), .val (.ref b), .val (.int (0 : Int32)), .val (.int (Int32.ofNat n)), .val .null, .unset] [(.ref vb8)])
      refine own_go (fun t_ k_ => XS.astore X8.here hx rfl (hb hby d3_39) rfl rfl (l' := #[.val (.ref a1), .val (.ref b), .val (.int (0 : Int32)), .val (.int (Int32.ofNat n)), .val .null, .val (.ref vb8)]) rfl k_) ?_
      show own_Go p e below _ T8 (mkF m 41 #[.val (.ref a1), .val (.ref b), .val (.int (0 : Int32)), .val (.int (Int32.ofNat n)), .val .null, .val (.ref vb8)] [])
      refine own_go (fun t_ k_ => XS.aloadN X8.here hx rfl (hb hby d3_41) rfl rfl k_) ?_
      show own_Go p e below _ T8 (mkF m 42 #[.val (.ref a1), .val (.ref b), .val (.int (0 : Int32)), .val (.int (Int32.ofNat n)), .val .null, .val (.ref vb8)] [(.ref a1)])
      refine own_go (fun t_ k_ => XS.aload X8.here hx rfl (hb hby d3_42) rfl rfl k_) ?_
      show own_Go p e below _ T8 (mkF m 44 #[.val (.ref a1), .val (.ref b), .val (.int (0 : Int32)), .val (.int (Int32.ofNat n)), .val .null, .val (.ref vb8)] [(.ref vb8), (.ref a1)])
      refine own_go (fun t_ k_ => XS.iloadN X8.here hx rfl (hb hby d3_44) rfl k_) ?_
      show own_Go p e below _ T8 (mkF m 45 #[.val (.ref a1), .val (.ref b), .val (.int (0 : Int32)), .val (.int (Int32.ofNat n)), .val .null, .val (.ref vb8)] [(.int (Int32.ofNat n)), (.ref vb8), (.ref a1)])
      obtain ⟨_, T12, L12, X12, ⟨rfl, N12, e12⟩, st12⟩ := own_callS X8 hx hZ (y := (⟨"java/lang/StringUTF16", "coderFromArrayLen", "([BI)B"⟩ : MethodName)) (argsL := [(.ref vb8), (.int (Int32.ofNat n))]) (rest := [(.ref a1)]) (Ls := #[.val (.ref a1), .val (.ref b), .val (.int (0 : Int32)), .val (.int (Int32.ofNat n)), .val .null, .val (.ref vb8)]) hown (own_w hw 75 rfl) (own_w hw 76 rfl) (own_w hw 70 rfl) (own_w hw 77 rfl) (by decide) rfl (rmCF l Z a0 hw [] vb8 n (2 * n) _ T8.heap n0 (own_oldge old8) old8 Vv) 1 (by decide) (by decide) (by decide) (by decide) (by rw [hml]; rfl) (lenOf pd_12 rfl) rfl (Nat.le_of_eq rfl) (hb hby d3_45)
      have M12 := Fr.app M8 N12
      refine own_go st12 ?_
      show own_Go p e below _ T12 (mkF m 48 #[.val (.ref a1), .val (.ref b), .val (.int (0 : Int32)), .val (.int (Int32.ofNat n)), .val .null, .val (.ref vb8)] [(.int (own_cf n (2 * n))), (.ref a1)])
      rw [show (own_cf n (2 * n)) = (1 : Int32) from own_cf1 n hv hn]
      show own_Go p e below _ T12 (mkF m 48 #[.val (.ref a1), .val (.ref b), .val (.int (0 : Int32)), .val (.int (Int32.ofNat n)), .val .null, .val (.ref vb8)] [(.int (1 : Int32)), (.ref a1)])
      obtain ⟨T13, h13, L13, X13, N13, e13, W13, G13, st13⟩ := own_putF X12 hx hZ hown (v := (.int (1 : Int32))) (host := "") (Or.inl (own_w hw 25 rfl)) Via.refl e12 kF8_a1_coder kE8_a1 (Or.inr ⟨(own_w hw 21 rfl), rfl, hnm⟩) (own_w hw 6 rfl) .byte (by decide) rfl rfl M12 g1 (Ls := #[.val (.ref a1), .val (.ref b), .val (.int (0 : Int32)), .val (.int (Int32.ofNat n)), .val .null, .val (.ref vb8)]) (rest := []) (hb hby d3_48)
      have H13_value := kF8_a1_value.other W13 (Or.inr (slot_ne (Or.inr (own_w hw 20 rfl)) (Or.inr (own_w hw 21 rfl)) (by decide) (t := (.array .byte)) (t' := .byte) (by decide) (by decide)))
      have old13 := old8.wr W13 g1
      have kp13 := kp8.wr W13 (Or.inl (List.mem_of_getElem? (i := 0) rfl))
      refine own_go st13 ?_
      show own_Go p e below _ T13 (mkF m 51 #[.val (.ref a1), .val (.ref b), .val (.int (0 : Int32)), .val (.int (Int32.ofNat n)), .val .null, .val (.ref vb8)] [])
      refine own_go (fun t_ k_ => XS.aloadN X13.here hx rfl (hb hby d3_51) rfl rfl k_) ?_
      show own_Go p e below _ T13 (mkF m 52 #[.val (.ref a1), .val (.ref b), .val (.int (0 : Int32)), .val (.int (Int32.ofNat n)), .val .null, .val (.ref vb8)] [(.ref a1)])
      refine own_go (fun t_ k_ => XS.aload X13.here hx rfl (hb hby d3_52) rfl rfl k_) ?_
      show own_Go p e below _ T13 (mkF m 54 #[.val (.ref a1), .val (.ref b), .val (.int (0 : Int32)), .val (.int (Int32.ofNat n)), .val .null, .val (.ref vb8)] [(.ref vb8), (.ref a1)])
      obtain ⟨T14, h14, L14, X14, N14, e14, W14, G14, st14⟩ := own_putF X13 hx hZ hown (v := (.ref vb8)) (host := "") (Or.inl (own_w hw 24 rfl)) Via.refl e13 H13_value (kE8_a1.wr W13) (Or.inr ⟨(own_w hw 20 rfl), rfl, hnm⟩) (own_w hw 6 rfl) (.array .byte) (by decide) rfl rfl N13 g1 (Ls := #[.val (.ref a1), .val (.ref b), .val (.int (0 : Int32)), .val (.int (Int32.ofNat n)), .val .null, .val (.ref vb8)]) (rest := []) (hb hby d3_54)
      have H14_coder := G13.other W14 (Or.inr (slot_ne (Or.inr (own_w hw 21 rfl)) (Or.inr (own_w hw 20 rfl)) (by decide) (t := .byte) (t' := (.array .byte)) (by decide) (by decide)))
      have old14 := old13.wr W14 g1
      have kp14 := kp13.wr W14 (Or.inl (List.mem_of_getElem? (i := 0) rfl))
      refine own_go st14 ?_
      show own_Go p e below _ T14 (mkF m 57 #[.val (.ref a1), .val (.ref b), .val (.int (0 : Int32)), .val (.int (Int32.ofNat n)), .val .null, .val (.ref vb8)] [])
      refine own_retVW (own_wd X14) (own_wS s _) (Nat.le_refl _) hx hlk hret (hb hby d3_57) (by decide) (by decide) ?_
      exact ⟨rfl, N14, by rw [e14]; exact ⟨kp14, ⟨vb8, ((kE8_a1.wr W13).wr W14), G14, Or.inr ⟨H14_coder, ((Vv.other W13 ne_vb8_a1).other W14 ne_vb8_a1), hv⟩⟩⟩⟩
set_option maxRecDepth 65536 in
set_option maxHeartbeats 40000000 in
theorem rmI1 (l : Launch) (Z : State) (a0 : Array Value) (hw : ∀ d ∈ tables_1, d.before a0 Z = true) (ws : List Jvm.Cond) (a1 b : Addr) (n : Nat) (f : Nat → Int32) (cs : Int32) (h0 : Heap) (n0 : Nat) (Z0 : n0 ≤ h0.size) (O0 : Old Z n0 h0) (S_ad : Sta Z Z.heap "java/lang/StringUTF16" "$assertionsDisabled" "Z" (.int (1 : Int32))) (S_hi : Sta Z Z.heap "java/lang/StringUTF16" "HI_BYTE_SHIFT" "I" (.int (0 : Int32))) (S_lo : Sta Z Z.heap "java/lang/StringUTF16" "LO_BYTE_SHIFT" "I" (.int (8 : Int32))) (S_cs : Sta Z Z.heap "java/lang/String" "COMPACT_STRINGS" "Z" (.int cs)) (hcs : ¬ cs = 0) (hH : Jvm.Lit.constHeld Z "java/lang/String" 7) (hcw : Jvm.Lit.compactW.before a0 Z = true) (E_a : Exa Z h0 a1 "java/lang/String") (F_v : Fld Z h0 a1 "java/lang/String" "value" "[B" .null) (F_c : Fld Z h0 a1 "java/lang/String" "coder" "B" (.int (0 : Int32))) (g1 : n0 ≤ a1) (V_b : own_CA Z h0 b n f) (hc : ∀ x, own_isC (f x)) (hn : n ≤ 6) :
    own_MetW l Z (⟨"java/lang/String", "<init>", "([C)V"⟩ : MethodName) jdk_42_method_3_code 2 none ws ({ frames := 5, cells := 2, slots := 18, locals := 74 } : Room) #[(.ref a1), (.ref b)] h0 (fun v h L => v = none ∧ Fr n0 L ∧ Keep h0 h [a1] ∧ own_STR Z h a1 n f) := by
  refine own_bodyW (by first | exact plainFor_of_name pn_java_lang_String | decide +kernel) ?_
  intro p e s m below meth c T0 X0 hx hby hml hret hlk hZH hown hnm e0 hs0
  have hZ := hZH.wide
  have hown : s.vm.findClass "java/lang/String" = some m.cls := hown
  have hnm : meth.name = "<init>" := hnm
  have N0 := Fr.nil n0
  rw [ef_2 m a1 b]
  show own_Go p e below _ T0 (mkF m 0 #[.val (.ref a1), .val (.ref b)] [])
  refine own_go (fun t_ k_ => XS.aloadN X0.here hx rfl (hb hby d2_0) rfl rfl k_) ?_
  show own_Go p e below _ T0 (mkF m 1 #[.val (.ref a1), .val (.ref b)] [(.ref a1)])
  refine own_go (fun t_ k_ => XS.aloadN X0.here hx rfl (hb hby d2_1) rfl rfl k_) ?_
  show own_Go p e below _ T0 (mkF m 2 #[.val (.ref a1), .val (.ref b)] [(.ref b), (.ref a1)])
  refine own_go (fun t_ k_ => XS.iconst X0.here hx rfl (hb hby d2_2) k_) ?_
  show own_Go p e below _ T0 (mkF m 3 #[.val (.ref a1), .val (.ref b)] [(.int (0 : Int32)), (.ref b), (.ref a1)])
  refine own_go (fun t_ k_ => XS.aloadN X0.here hx rfl (hb hby d2_3) rfl rfl k_) ?_
  show own_Go p e below _ T0 (mkF m 4 #[.val (.ref a1), .val (.ref b)] [(.ref b), (.int (0 : Int32)), (.ref b), (.ref a1)])
  refine own_go (own_lenCA X0 hx hZ e0 (Ls := #[.val (.ref a1), .val (.ref b)]) (rest := [(.int (0 : Int32)), (.ref b), (.ref a1)]) V_b (hb hby d2_4)) ?_
  show own_Go p e below _ T0 (mkF m 5 #[.val (.ref a1), .val (.ref b)] [(.int (Int32.ofNat n)), (.int (0 : Int32)), (.ref b), (.ref a1)])
  refine own_go (fun t_ k_ => XS.aconstNull X0.here hx rfl (hb hby d2_5) k_) ?_
  show own_Go p e below _ T0 (mkF m 6 #[.val (.ref a1), .val (.ref b)] [.null, (.int (Int32.ofNat n)), (.int (0 : Int32)), (.ref b), (.ref a1)])
  obtain ⟨_, T1, L1, X1, ⟨rfl, N1, K1, str1⟩, hS1, hZ, hown, st1⟩ := own_callCW X0 hx hZH (y := (⟨"java/lang/String", "<init>", "([CIILjava/lang/Void;)V"⟩ : MethodName)) (b := a1) (argsL := [(.ref b), (.int (0 : Int32)), (.int (Int32.ofNat n)), .null]) (rest := []) (Ls := #[.val (.ref a1), .val (.ref b)]) rfl hown (own_w hw 11 rfl) (own_w hw 12 rfl) (own_w hw 14 rfl) (own_w hw 7 rfl) (by decide) e0 (rmI4 l Z a0 hw [] a1 b n f cs h0 n0 (own_oldge O0) O0 S_ad S_hi S_lo S_cs hcs hH hcw E_a F_v F_c g1 V_b hc hn) 0 (by decide) (by decide) (by decide) (by decide) (by rw [hml]; rfl) (lenOf pd_21 rfl) rfl (Nat.le_of_eq rfl) (hb hby d2_6)
  have M1 := Fr.app N0 N1
  have old1 := O0.keep K1 (allS g1 all0)
  refine own_go st1 ?_
  show own_Go p e below _ T1 (mkF m 9 #[.val (.ref a1), .val (.ref b)] [])
  refine own_retVW X1 hS1 (Nat.le_refl _) hx hlk hret (hb hby d2_9) (by decide) (by decide) ?_
  exact ⟨rfl, M1, K1, str1⟩
set_option maxRecDepth 65536 in
set_option maxHeartbeats 40000000 in
theorem rmMk (l : Launch) (Z : State) (a0 : Array Value) (hw : ∀ d ∈ tables_1, d.before a0 Z = true) (ws : List Jvm.Cond) (b : Addr) (n : Nat) (f : Nat → Int32) (cs : Int32) (h0 : Heap) (n0 : Nat) (Z0 : n0 ≤ h0.size) (O0 : Old Z n0 h0) (S_ad : Sta Z Z.heap "java/lang/StringUTF16" "$assertionsDisabled" "Z" (.int (1 : Int32))) (S_hi : Sta Z Z.heap "java/lang/StringUTF16" "HI_BYTE_SHIFT" "I" (.int (0 : Int32))) (S_lo : Sta Z Z.heap "java/lang/StringUTF16" "LO_BYTE_SHIFT" "I" (.int (8 : Int32))) (S_cs : Sta Z Z.heap "java/lang/String" "COMPACT_STRINGS" "Z" (.int cs)) (hcs : ¬ cs = 0) (hH : Jvm.Lit.constHeld Z "java/lang/String" 7) (hcw : Jvm.Lit.compactW.before a0 Z = true) (V_b : own_CA Z h0 b 6 f) (hc : ∀ x, own_isC (f x)) (hn : n ≤ 6) :
    own_MetW l Z (⟨"com/example/lease/lease/service/SizesCheckCharactersPinLaw", "make", "([CI)Ljava/lang/String;"⟩ : MethodName) method_3_code 2 (some (.object "java/lang/String")) ws ({ frames := 6, cells := 4, slots := 28, locals := 88 } : Room) #[(.ref b), (.int (Int32.ofNat n))] h0 (fun v h L => (∃ a : Addr, v = some (.ref a) ∧ own_STR Z h a n f ∧ Old Z n0 h) ∧ Fr n0 L) := by
  refine own_bodyW (by first | exact plainFor_of_name pn_com_example_lease_lease_service_SizesCheckCharactersPinLaw | decide +kernel) ?_
  intro p e s m below meth c T0 X0 hx hby hml hret hlk hZH hown hnm e0 hs0
  have hZ := hZH.wide
  have hown : s.vm.findClass "com/example/lease/lease/service/SizesCheckCharactersPinLaw" = some m.cls := hown
  have hnm : meth.name = "make" := hnm
  have N0 := Fr.nil n0
  rw [ef_1 m b (Int32.ofNat n)]
  show own_Go p e below _ T0 (mkF m 0 #[.val (.ref b), .val (.int (Int32.ofNat n))] [])
  refine own_go (fun t_ k_ => XS.iloadN X0.here hx rfl (hb hby d1_0) rfl k_) ?_
  show own_Go p e below _ T0 (mkF m 1 #[.val (.ref b), .val (.int (Int32.ofNat n))] [(.int (Int32.ofNat n))])
  by_cases hk0 : n = 0
  · show own_Go p e below _ T0 (mkF m 1 #[.val (.ref b), .val (.int (Int32.ofNat n))] [(.int (Int32.ofNat n))])
    refine own_go (fun t_ k_ => XS.ifNo X0.here hx rfl (hb hby d1_1) rfl (XT.i0_ne_f ((own_oEq (b := 0) (by omega) (by omega)).mpr hk0)) k_) ?_
    show own_Go p e below _ T0 (mkF m 4 #[.val (.ref b), .val (.int (Int32.ofNat n))] [])
    obtain ⟨T1, h1, b1, X1, e1, E1, g1, A1, D1, st1⟩ := own_newO X0 hx hZ hown (own_w hw 5 rfl) (own_w hw 6 rfl) (own_w hw 7 rfl) e0 (Ls := #[.val (.ref b), .val (.int (Int32.ofNat n))]) (st := []) (hb hby d1_4) (by decide) (by decide)
    have ge_b1 : n0 ≤ b1 := g1 ▸ own_oldge O0
    have old1 := O0.ext E1
    have F1_value : Fld Z h1 b1 "java/lang/String" "value" "[B" .null := D1 (Or.inr (own_w hw 20 rfl)) (ty := (.array .byte)) (by decide)
    have F1_coder : Fld Z h1 b1 "java/lang/String" "coder" "B" (.int (0 : Int32)) := D1 (Or.inr (own_w hw 21 rfl)) (ty := .byte) (by decide)
    refine own_go st1 ?_
    show own_Go p e below _ T1 (mkF m 7 #[.val (.ref b), .val (.int (Int32.ofNat n))] [(.ref b1)])
    refine own_go (fun t_ k_ => XS.dup X1.here hx rfl (hb hby d1_7) rfl rfl k_) ?_
    show own_Go p e below _ T1 (mkF m 8 #[.val (.ref b), .val (.int (Int32.ofNat n))] [(.ref b1), (.ref b1)])
    refine own_go (fun t_ k_ => XS.iconst X1.here hx rfl (hb hby d1_8) k_) ?_
    show own_Go p e below _ T1 (mkF m 9 #[.val (.ref b), .val (.int (Int32.ofNat n))] [(.int (0 : Int32)), (.ref b1), (.ref b1)])
    obtain ⟨T2, h2, b2, X2, e2, E2, g2, V2, st2⟩ := own_newCA X1 hx hZ (own_w hw 0 rfl) e1 (Ls := #[.val (.ref b), .val (.int (Int32.ofNat n))]) (rest := [(.ref b1), (.ref b1)]) (hb hby d1_9) 0 6 (by omega) (by decide) (by decide) (by decide)
    have ge_b2 : n0 ≤ b2 := g2 ▸ own_oldge old1
    have old2 := old1.ext E2
    refine own_go st2 ?_
    show own_Go p e below _ T2 (mkF m 11 #[.val (.ref b), .val (.int (Int32.ofNat n))] [(.ref b2), (.ref b1), (.ref b1)])
    have ne_b_b2 : b ≠ b2 := fun q => absurd V_b.lt (by rw [q, g2]; exact Nat.not_lt.mpr E1.1)
    have ne_b1_b2 : b1 ≠ b2 := own_exaCA (A1.ext E2) V2 (own_w hw 6 rfl)
    obtain ⟨_, T3, L3, X3, ⟨rfl, N3, K3, str3⟩, hS3, hZ, hown, st3⟩ := own_callCW X2 hx hZH (y := (⟨"java/lang/String", "<init>", "([C)V"⟩ : MethodName)) (b := b1) (argsL := [(.ref b2)]) (rest := [(.ref b1)]) (Ls := #[.val (.ref b), .val (.int (Int32.ofNat n))]) rfl hown (own_w hw 8 rfl) (own_w hw 9 rfl) (own_w hw 10 rfl) (own_w hw 7 rfl) (by decide) e2 (rmI1 l Z a0 hw [] b1 b2 0 f cs h2 n0 (own_oldge old2) old2 S_ad S_hi S_lo S_cs hcs hH hcw (A1.ext E2) (F1_value.ext E2) (F1_coder.ext E2) ge_b1 (V2.cong (fun i hi => absurd hi (Nat.not_lt_zero _))) hc (by decide)) 1 (by decide) (by decide) (by decide) (by decide) (by rw [hml]; rfl) (lenOf pd_17 rfl) rfl (Nat.le_of_eq rfl) (hb hby d1_11)
    have M3 := Fr.app N0 N3
    have old3 := old2.keep K3 (allS ge_b1 all0)
    refine own_go st3 ?_
    show own_Go p e below _ T3 (mkF m 14 #[.val (.ref b), .val (.int (Int32.ofNat n))] [(.ref b1)])
    refine own_retAW X3 hS3 (Nat.le_refl _) hx hlk hret (hb hby d1_14) rfl rfl (by decide) (by decide) ?_
    exact ⟨⟨b1, rfl, by rw [hk0]; exact ⟨str3, old3⟩⟩, M3⟩
  · show own_Go p e below _ T0 (mkF m 1 #[.val (.ref b), .val (.int (Int32.ofNat n))] [(.int (Int32.ofNat n))])
    refine own_go (fun t_ k_ => XS.ifYes X0.here hx rfl (pc0 := 1) (pc' := 15) rfl (hb hby d1_1) rfl (XT.i0_ne_t (fun q => hk0 ((own_oEq (b := 0) (by omega) (by omega)).mp q))) (by decide) (by decide) k_) ?_
    show own_Go p e below _ T0 (mkF m 15 #[.val (.ref b), .val (.int (Int32.ofNat n))] [])
    refine own_go (fun t_ k_ => XS.iloadN X0.here hx rfl (hb hby d1_15) rfl k_) ?_
    show own_Go p e below _ T0 (mkF m 16 #[.val (.ref b), .val (.int (Int32.ofNat n))] [(.int (Int32.ofNat n))])
    refine own_go (fun t_ k_ => XS.iconst X0.here hx rfl (hb hby d1_16) k_) ?_
    show own_Go p e below _ T0 (mkF m 17 #[.val (.ref b), .val (.int (Int32.ofNat n))] [(.int (1 : Int32)), (.int (Int32.ofNat n))])
    by_cases hk1 : n = 1
    · show own_Go p e below _ T0 (mkF m 17 #[.val (.ref b), .val (.int (Int32.ofNat n))] [(.int (1 : Int32)), (.int (Int32.ofNat n))])
      refine own_go (fun t_ k_ => XS.icmpNo X0.here hx rfl (hb hby d1_17) rfl (XT.ii_ne_f ((own_oEq (b := 1) (by omega) (by omega)).mpr hk1)) k_) ?_
      show own_Go p e below _ T0 (mkF m 20 #[.val (.ref b), .val (.int (Int32.ofNat n))] [])
      obtain ⟨T4, h4, b4, X4, e4, E4, g4, A4, D4, st4⟩ := own_newO X0 hx hZ hown (own_w hw 5 rfl) (own_w hw 6 rfl) (own_w hw 7 rfl) e0 (Ls := #[.val (.ref b), .val (.int (Int32.ofNat n))]) (st := []) (hb hby d1_20) (by decide) (by decide)
      have ge_b4 : n0 ≤ b4 := g4 ▸ own_oldge O0
      have old4 := O0.ext E4
      have F4_value : Fld Z h4 b4 "java/lang/String" "value" "[B" .null := D4 (Or.inr (own_w hw 20 rfl)) (ty := (.array .byte)) (by decide)
      have F4_coder : Fld Z h4 b4 "java/lang/String" "coder" "B" (.int (0 : Int32)) := D4 (Or.inr (own_w hw 21 rfl)) (ty := .byte) (by decide)
      refine own_go st4 ?_
      show own_Go p e below _ T4 (mkF m 23 #[.val (.ref b), .val (.int (Int32.ofNat n))] [(.ref b4)])
      refine own_go (fun t_ k_ => XS.dup X4.here hx rfl (hb hby d1_23) rfl rfl k_) ?_
      show own_Go p e below _ T4 (mkF m 24 #[.val (.ref b), .val (.int (Int32.ofNat n))] [(.ref b4), (.ref b4)])
      refine own_go (fun t_ k_ => XS.iconst X4.here hx rfl (hb hby d1_24) k_) ?_
      show own_Go p e below _ T4 (mkF m 25 #[.val (.ref b), .val (.int (Int32.ofNat n))] [(.int (1 : Int32)), (.ref b4), (.ref b4)])
      obtain ⟨T5, h5, b5, X5, e5, E5, g5, V5, st5⟩ := own_newCA X4 hx hZ (own_w hw 0 rfl) e4 (Ls := #[.val (.ref b), .val (.int (Int32.ofNat n))]) (rest := [(.ref b4), (.ref b4)]) (hb hby d1_25) 1 6 (by omega) (by decide) (by decide) (by decide)
      have ge_b5 : n0 ≤ b5 := g5 ▸ own_oldge old4
      have old5 := old4.ext E5
      refine own_go st5 ?_
      show own_Go p e below _ T5 (mkF m 27 #[.val (.ref b), .val (.int (Int32.ofNat n))] [(.ref b5), (.ref b4), (.ref b4)])
      have ne_b_b5 : b ≠ b5 := fun q => absurd V_b.lt (by rw [q, g5]; exact Nat.not_lt.mpr E4.1)
      have ne_b4_b5 : b4 ≠ b5 := own_exaCA (A4.ext E5) V5 (own_w hw 6 rfl)
      refine own_go (fun t_ k_ => XS.dup X5.here hx rfl (hb hby d1_27) rfl rfl k_) ?_
      show own_Go p e below _ T5 (mkF m 28 #[.val (.ref b), .val (.int (Int32.ofNat n))] [(.ref b5), (.ref b5), (.ref b4), (.ref b4)])
      refine own_go (fun t_ k_ => XS.iconst X5.here hx rfl (hb hby d1_28) k_) ?_
      show own_Go p e below _ T5 (mkF m 29 #[.val (.ref b), .val (.int (Int32.ofNat n))] [(.int (0 : Int32)), (.ref b5), (.ref b5), (.ref b4), (.ref b4)])
      refine own_go (fun t_ k_ => XS.aloadN X5.here hx rfl (hb hby d1_29) rfl rfl k_) ?_
      show own_Go p e below _ T5 (mkF m 30 #[.val (.ref b), .val (.int (Int32.ofNat n))] [(.ref b), (.int (0 : Int32)), (.ref b5), (.ref b5), (.ref b4), (.ref b4)])
      refine own_go (fun t_ k_ => XS.iconst X5.here hx rfl (hb hby d1_30) k_) ?_
      show own_Go p e below _ T5 (mkF m 31 #[.val (.ref b), .val (.int (Int32.ofNat n))] [(.int (0 : Int32)), (.ref b), (.int (0 : Int32)), (.ref b5), (.ref b5), (.ref b4), (.ref b4)])
      refine own_go (own_ldCA X5 hx hZ e5 (Ls := #[.val (.ref b), .val (.int (Int32.ofNat n))]) (rest := [(.int (0 : Int32)), (.ref b5), (.ref b5), (.ref b4), (.ref b4)]) ((V_b.ext E4).ext E5) (by omega) 0 (by omega) (hb hby d1_31)) ?_
      show own_Go p e below _ T5 (mkF m 32 #[.val (.ref b), .val (.int (Int32.ofNat n))] [(.int (f 0)), (.int (0 : Int32)), (.ref b5), (.ref b5), (.ref b4), (.ref b4)])
      obtain ⟨T6, h6, L6, X6, N6, e6, ⟨sl6, v6, W6⟩, V6, st6⟩ := own_stCA X5 hx hZ e5 V5 (by omega) 0 (by omega) (y := (f 0)) (hc _) (f' := (fun (x : Nat) => if x = 0 then (f 0) else (fun (_ : Nat) => (0 : Int32)) x)) (fun _ => rfl) N0 ge_b5 (Ls := #[.val (.ref b), .val (.int (Int32.ofNat n))]) (rest := [(.ref b5), (.ref b4), (.ref b4)]) (hb hby d1_32)
      have old6 := old5.wr W6 ge_b5
      have H6_b4_value := (F4_value.ext E5).other W6 (Or.inl ne_b4_b5)
      have H6_b4_coder := (F4_coder.ext E5).other W6 (Or.inl ne_b4_b5)
      refine own_go st6 ?_
      show own_Go p e below _ T6 (mkF m 33 #[.val (.ref b), .val (.int (Int32.ofNat n))] [(.ref b5), (.ref b4), (.ref b4)])
      obtain ⟨_, T7, L7, X7, ⟨rfl, N7, K7, str7⟩, hS7, hZ, hown, st7⟩ := own_callCW X6 hx hZH (y := (⟨"java/lang/String", "<init>", "([C)V"⟩ : MethodName)) (b := b4) (argsL := [(.ref b5)]) (rest := [(.ref b4)]) (Ls := #[.val (.ref b), .val (.int (Int32.ofNat n))]) rfl hown (own_w hw 8 rfl) (own_w hw 9 rfl) (own_w hw 10 rfl) (own_w hw 7 rfl) (by decide) e6 (rmI1 l Z a0 hw [] b4 b5 1 f cs h6 n0 (own_oldge old6) old6 S_ad S_hi S_lo S_cs hcs hH hcw ((A4.ext E5).wr W6) H6_b4_value H6_b4_coder ge_b4 (V6.cong (fun i hi => by match i, hi with | 0, _ => rfl | z + 1, hz => exact absurd hz (by omega))) hc (by decide)) 1 (by decide) (by decide) (by decide) (by decide) (by rw [hml]; rfl) (lenOf pd_17 rfl) rfl (Nat.le_of_eq rfl) (hb hby d1_33)
      have M7 := Fr.app N6 N7
      have old7 := old6.keep K7 (allS ge_b4 all0)
      refine own_go st7 ?_
      show own_Go p e below _ T7 (mkF m 36 #[.val (.ref b), .val (.int (Int32.ofNat n))] [(.ref b4)])
      refine own_retAW X7 hS7 (Nat.le_refl _) hx hlk hret (hb hby d1_36) rfl rfl (by decide) (by decide) ?_
      exact ⟨⟨b4, rfl, by rw [hk1]; exact ⟨str7, old7⟩⟩, M7⟩
    · show own_Go p e below _ T0 (mkF m 17 #[.val (.ref b), .val (.int (Int32.ofNat n))] [(.int (1 : Int32)), (.int (Int32.ofNat n))])
      refine own_go (fun t_ k_ => XS.icmpYes X0.here hx rfl (pc0 := 17) (pc' := 37) rfl (hb hby d1_17) rfl (XT.ii_ne_t (fun q => hk1 ((own_oEq (b := 1) (by omega) (by omega)).mp q))) (by decide) (by decide) k_) ?_
      show own_Go p e below _ T0 (mkF m 37 #[.val (.ref b), .val (.int (Int32.ofNat n))] [])
      refine own_go (fun t_ k_ => XS.iloadN X0.here hx rfl (hb hby d1_37) rfl k_) ?_
      show own_Go p e below _ T0 (mkF m 38 #[.val (.ref b), .val (.int (Int32.ofNat n))] [(.int (Int32.ofNat n))])
      refine own_go (fun t_ k_ => XS.iconst X0.here hx rfl (hb hby d1_38) k_) ?_
      show own_Go p e below _ T0 (mkF m 39 #[.val (.ref b), .val (.int (Int32.ofNat n))] [(.int (2 : Int32)), (.int (Int32.ofNat n))])
      by_cases hk2 : n = 2
      · show own_Go p e below _ T0 (mkF m 39 #[.val (.ref b), .val (.int (Int32.ofNat n))] [(.int (2 : Int32)), (.int (Int32.ofNat n))])
        refine own_go (fun t_ k_ => XS.icmpNo X0.here hx rfl (hb hby d1_39) rfl (XT.ii_ne_f ((own_oEq (b := 2) (by omega) (by omega)).mpr hk2)) k_) ?_
        show own_Go p e below _ T0 (mkF m 42 #[.val (.ref b), .val (.int (Int32.ofNat n))] [])
        obtain ⟨T8, h8, b8, X8, e8, E8, g8, A8, D8, st8⟩ := own_newO X0 hx hZ hown (own_w hw 5 rfl) (own_w hw 6 rfl) (own_w hw 7 rfl) e0 (Ls := #[.val (.ref b), .val (.int (Int32.ofNat n))]) (st := []) (hb hby d1_42) (by decide) (by decide)
        have ge_b8 : n0 ≤ b8 := g8 ▸ own_oldge O0
        have old8 := O0.ext E8
        have F8_value : Fld Z h8 b8 "java/lang/String" "value" "[B" .null := D8 (Or.inr (own_w hw 20 rfl)) (ty := (.array .byte)) (by decide)
        have F8_coder : Fld Z h8 b8 "java/lang/String" "coder" "B" (.int (0 : Int32)) := D8 (Or.inr (own_w hw 21 rfl)) (ty := .byte) (by decide)
        refine own_go st8 ?_
        show own_Go p e below _ T8 (mkF m 45 #[.val (.ref b), .val (.int (Int32.ofNat n))] [(.ref b8)])
        refine own_go (fun t_ k_ => XS.dup X8.here hx rfl (hb hby d1_45) rfl rfl k_) ?_
        show own_Go p e below _ T8 (mkF m 46 #[.val (.ref b), .val (.int (Int32.ofNat n))] [(.ref b8), (.ref b8)])
        refine own_go (fun t_ k_ => XS.iconst X8.here hx rfl (hb hby d1_46) k_) ?_
        show own_Go p e below _ T8 (mkF m 47 #[.val (.ref b), .val (.int (Int32.ofNat n))] [(.int (2 : Int32)), (.ref b8), (.ref b8)])
        obtain ⟨T9, h9, b9, X9, e9, E9, g9, V9, st9⟩ := own_newCA X8 hx hZ (own_w hw 0 rfl) e8 (Ls := #[.val (.ref b), .val (.int (Int32.ofNat n))]) (rest := [(.ref b8), (.ref b8)]) (hb hby d1_47) 2 6 (by omega) (by decide) (by decide) (by decide)
        have ge_b9 : n0 ≤ b9 := g9 ▸ own_oldge old8
        have old9 := old8.ext E9
        refine own_go st9 ?_
        show own_Go p e below _ T9 (mkF m 49 #[.val (.ref b), .val (.int (Int32.ofNat n))] [(.ref b9), (.ref b8), (.ref b8)])
        have ne_b_b9 : b ≠ b9 := fun q => absurd V_b.lt (by rw [q, g9]; exact Nat.not_lt.mpr E8.1)
        have ne_b8_b9 : b8 ≠ b9 := own_exaCA (A8.ext E9) V9 (own_w hw 6 rfl)
        refine own_go (fun t_ k_ => XS.dup X9.here hx rfl (hb hby d1_49) rfl rfl k_) ?_
        show own_Go p e below _ T9 (mkF m 50 #[.val (.ref b), .val (.int (Int32.ofNat n))] [(.ref b9), (.ref b9), (.ref b8), (.ref b8)])
        refine own_go (fun t_ k_ => XS.iconst X9.here hx rfl (hb hby d1_50) k_) ?_
        show own_Go p e below _ T9 (mkF m 51 #[.val (.ref b), .val (.int (Int32.ofNat n))] [(.int (0 : Int32)), (.ref b9), (.ref b9), (.ref b8), (.ref b8)])
        refine own_go (fun t_ k_ => XS.aloadN X9.here hx rfl (hb hby d1_51) rfl rfl k_) ?_
        show own_Go p e below _ T9 (mkF m 52 #[.val (.ref b), .val (.int (Int32.ofNat n))] [(.ref b), (.int (0 : Int32)), (.ref b9), (.ref b9), (.ref b8), (.ref b8)])
        refine own_go (fun t_ k_ => XS.iconst X9.here hx rfl (hb hby d1_52) k_) ?_
        show own_Go p e below _ T9 (mkF m 53 #[.val (.ref b), .val (.int (Int32.ofNat n))] [(.int (0 : Int32)), (.ref b), (.int (0 : Int32)), (.ref b9), (.ref b9), (.ref b8), (.ref b8)])
        refine own_go (own_ldCA X9 hx hZ e9 (Ls := #[.val (.ref b), .val (.int (Int32.ofNat n))]) (rest := [(.int (0 : Int32)), (.ref b9), (.ref b9), (.ref b8), (.ref b8)]) ((V_b.ext E8).ext E9) (by omega) 0 (by omega) (hb hby d1_53)) ?_
        show own_Go p e below _ T9 (mkF m 54 #[.val (.ref b), .val (.int (Int32.ofNat n))] [(.int (f 0)), (.int (0 : Int32)), (.ref b9), (.ref b9), (.ref b8), (.ref b8)])
        obtain ⟨T10, h10, L10, X10, N10, e10, ⟨sl10, v10, W10⟩, V10, st10⟩ := own_stCA X9 hx hZ e9 V9 (by omega) 0 (by omega) (y := (f 0)) (hc _) (f' := (fun (x : Nat) => if x = 0 then (f 0) else (fun (_ : Nat) => (0 : Int32)) x)) (fun _ => rfl) N0 ge_b9 (Ls := #[.val (.ref b), .val (.int (Int32.ofNat n))]) (rest := [(.ref b9), (.ref b8), (.ref b8)]) (hb hby d1_54)
        have old10 := old9.wr W10 ge_b9
        have H10_b8_value := (F8_value.ext E9).other W10 (Or.inl ne_b8_b9)
        have H10_b8_coder := (F8_coder.ext E9).other W10 (Or.inl ne_b8_b9)
        refine own_go st10 ?_
        show own_Go p e below _ T10 (mkF m 55 #[.val (.ref b), .val (.int (Int32.ofNat n))] [(.ref b9), (.ref b8), (.ref b8)])
        refine own_go (fun t_ k_ => XS.dup X10.here hx rfl (hb hby d1_55) rfl rfl k_) ?_
        show own_Go p e below _ T10 (mkF m 56 #[.val (.ref b), .val (.int (Int32.ofNat n))] [(.ref b9), (.ref b9), (.ref b8), (.ref b8)])
        refine own_go (fun t_ k_ => XS.iconst X10.here hx rfl (hb hby d1_56) k_) ?_
        show own_Go p e below _ T10 (mkF m 57 #[.val (.ref b), .val (.int (Int32.ofNat n))] [(.int (1 : Int32)), (.ref b9), (.ref b9), (.ref b8), (.ref b8)])
        refine own_go (fun t_ k_ => XS.aloadN X10.here hx rfl (hb hby d1_57) rfl rfl k_) ?_
        show own_Go p e below _ T10 (mkF m 58 #[.val (.ref b), .val (.int (Int32.ofNat n))] [(.ref b), (.int (1 : Int32)), (.ref b9), (.ref b9), (.ref b8), (.ref b8)])
        refine own_go (fun t_ k_ => XS.iconst X10.here hx rfl (hb hby d1_58) k_) ?_
        show own_Go p e below _ T10 (mkF m 59 #[.val (.ref b), .val (.int (Int32.ofNat n))] [(.int (1 : Int32)), (.ref b), (.int (1 : Int32)), (.ref b9), (.ref b9), (.ref b8), (.ref b8)])
        refine own_go (own_ldCA X10 hx hZ e10 (Ls := #[.val (.ref b), .val (.int (Int32.ofNat n))]) (rest := [(.int (1 : Int32)), (.ref b9), (.ref b9), (.ref b8), (.ref b8)]) (((V_b.ext E8).ext E9).other W10 ne_b_b9) (by omega) 1 (by omega) (hb hby d1_59)) ?_
        show own_Go p e below _ T10 (mkF m 60 #[.val (.ref b), .val (.int (Int32.ofNat n))] [(.int (f 1)), (.int (1 : Int32)), (.ref b9), (.ref b9), (.ref b8), (.ref b8)])
        obtain ⟨T11, h11, L11, X11, N11, e11, ⟨sl11, v11, W11⟩, V11, st11⟩ := own_stCA X10 hx hZ e10 V10 (by omega) 1 (by omega) (y := (f 1)) (hc _) (f' := (fun (x : Nat) => if x = 1 then (f 1) else (fun (x : Nat) => if x = 0 then (f 0) else (fun (_ : Nat) => (0 : Int32)) x) x)) (fun _ => rfl) N10 ge_b9 (Ls := #[.val (.ref b), .val (.int (Int32.ofNat n))]) (rest := [(.ref b9), (.ref b8), (.ref b8)]) (hb hby d1_60)
        have old11 := old10.wr W11 ge_b9
        have H11_b8_value := H10_b8_value.other W11 (Or.inl ne_b8_b9)
        have H11_b8_coder := H10_b8_coder.other W11 (Or.inl ne_b8_b9)
        refine own_go st11 ?_
        show own_Go p e below _ T11 (mkF m 61 #[.val (.ref b), .val (.int (Int32.ofNat n))] [(.ref b9), (.ref b8), (.ref b8)])
        obtain ⟨_, T12, L12, X12, ⟨rfl, N12, K12, str12⟩, hS12, hZ, hown, st12⟩ := own_callCW X11 hx hZH (y := (⟨"java/lang/String", "<init>", "([C)V"⟩ : MethodName)) (b := b8) (argsL := [(.ref b9)]) (rest := [(.ref b8)]) (Ls := #[.val (.ref b), .val (.int (Int32.ofNat n))]) rfl hown (own_w hw 8 rfl) (own_w hw 9 rfl) (own_w hw 10 rfl) (own_w hw 7 rfl) (by decide) e11 (rmI1 l Z a0 hw [] b8 b9 2 f cs h11 n0 (own_oldge old11) old11 S_ad S_hi S_lo S_cs hcs hH hcw (((A8.ext E9).wr W10).wr W11) H11_b8_value H11_b8_coder ge_b8 (V11.cong (fun i hi => by match i, hi with | 0, _ => rfl | 1, _ => rfl | z + 2, hz => exact absurd hz (by omega))) hc (by decide)) 1 (by decide) (by decide) (by decide) (by decide) (by rw [hml]; rfl) (lenOf pd_17 rfl) rfl (Nat.le_of_eq rfl) (hb hby d1_61)
        have M12 := Fr.app N11 N12
        have old12 := old11.keep K12 (allS ge_b8 all0)
        refine own_go st12 ?_
        show own_Go p e below _ T12 (mkF m 64 #[.val (.ref b), .val (.int (Int32.ofNat n))] [(.ref b8)])
        refine own_retAW X12 hS12 (Nat.le_refl _) hx hlk hret (hb hby d1_64) rfl rfl (by decide) (by decide) ?_
        exact ⟨⟨b8, rfl, by rw [hk2]; exact ⟨str12, old12⟩⟩, M12⟩
      · show own_Go p e below _ T0 (mkF m 39 #[.val (.ref b), .val (.int (Int32.ofNat n))] [(.int (2 : Int32)), (.int (Int32.ofNat n))])
        refine own_go (fun t_ k_ => XS.icmpYes X0.here hx rfl (pc0 := 39) (pc' := 65) rfl (hb hby d1_39) rfl (XT.ii_ne_t (fun q => hk2 ((own_oEq (b := 2) (by omega) (by omega)).mp q))) (by decide) (by decide) k_) ?_
        show own_Go p e below _ T0 (mkF m 65 #[.val (.ref b), .val (.int (Int32.ofNat n))] [])
        refine own_go (fun t_ k_ => XS.iloadN X0.here hx rfl (hb hby d1_65) rfl k_) ?_
        show own_Go p e below _ T0 (mkF m 66 #[.val (.ref b), .val (.int (Int32.ofNat n))] [(.int (Int32.ofNat n))])
        refine own_go (fun t_ k_ => XS.iconst X0.here hx rfl (hb hby d1_66) k_) ?_
        show own_Go p e below _ T0 (mkF m 67 #[.val (.ref b), .val (.int (Int32.ofNat n))] [(.int (3 : Int32)), (.int (Int32.ofNat n))])
        by_cases hk3 : n = 3
        · show own_Go p e below _ T0 (mkF m 67 #[.val (.ref b), .val (.int (Int32.ofNat n))] [(.int (3 : Int32)), (.int (Int32.ofNat n))])
          refine own_go (fun t_ k_ => XS.icmpNo X0.here hx rfl (hb hby d1_67) rfl (XT.ii_ne_f ((own_oEq (b := 3) (by omega) (by omega)).mpr hk3)) k_) ?_
          show own_Go p e below _ T0 (mkF m 70 #[.val (.ref b), .val (.int (Int32.ofNat n))] [])
          obtain ⟨T13, h13, b13, X13, e13, E13, g13, A13, D13, st13⟩ := own_newO X0 hx hZ hown (own_w hw 5 rfl) (own_w hw 6 rfl) (own_w hw 7 rfl) e0 (Ls := #[.val (.ref b), .val (.int (Int32.ofNat n))]) (st := []) (hb hby d1_70) (by decide) (by decide)
          have ge_b13 : n0 ≤ b13 := g13 ▸ own_oldge O0
          have old13 := O0.ext E13
          have F13_value : Fld Z h13 b13 "java/lang/String" "value" "[B" .null := D13 (Or.inr (own_w hw 20 rfl)) (ty := (.array .byte)) (by decide)
          have F13_coder : Fld Z h13 b13 "java/lang/String" "coder" "B" (.int (0 : Int32)) := D13 (Or.inr (own_w hw 21 rfl)) (ty := .byte) (by decide)
          refine own_go st13 ?_
          show own_Go p e below _ T13 (mkF m 73 #[.val (.ref b), .val (.int (Int32.ofNat n))] [(.ref b13)])
          refine own_go (fun t_ k_ => XS.dup X13.here hx rfl (hb hby d1_73) rfl rfl k_) ?_
          show own_Go p e below _ T13 (mkF m 74 #[.val (.ref b), .val (.int (Int32.ofNat n))] [(.ref b13), (.ref b13)])
          refine own_go (fun t_ k_ => XS.iconst X13.here hx rfl (hb hby d1_74) k_) ?_
          show own_Go p e below _ T13 (mkF m 75 #[.val (.ref b), .val (.int (Int32.ofNat n))] [(.int (3 : Int32)), (.ref b13), (.ref b13)])
          obtain ⟨T14, h14, b14, X14, e14, E14, g14, V14, st14⟩ := own_newCA X13 hx hZ (own_w hw 0 rfl) e13 (Ls := #[.val (.ref b), .val (.int (Int32.ofNat n))]) (rest := [(.ref b13), (.ref b13)]) (hb hby d1_75) 3 6 (by omega) (by decide) (by decide) (by decide)
          have ge_b14 : n0 ≤ b14 := g14 ▸ own_oldge old13
          have old14 := old13.ext E14
          refine own_go st14 ?_
          show own_Go p e below _ T14 (mkF m 77 #[.val (.ref b), .val (.int (Int32.ofNat n))] [(.ref b14), (.ref b13), (.ref b13)])
          have ne_b_b14 : b ≠ b14 := fun q => absurd V_b.lt (by rw [q, g14]; exact Nat.not_lt.mpr E13.1)
          have ne_b13_b14 : b13 ≠ b14 := own_exaCA (A13.ext E14) V14 (own_w hw 6 rfl)
          refine own_go (fun t_ k_ => XS.dup X14.here hx rfl (hb hby d1_77) rfl rfl k_) ?_
          show own_Go p e below _ T14 (mkF m 78 #[.val (.ref b), .val (.int (Int32.ofNat n))] [(.ref b14), (.ref b14), (.ref b13), (.ref b13)])
          refine own_go (fun t_ k_ => XS.iconst X14.here hx rfl (hb hby d1_78) k_) ?_
          show own_Go p e below _ T14 (mkF m 79 #[.val (.ref b), .val (.int (Int32.ofNat n))] [(.int (0 : Int32)), (.ref b14), (.ref b14), (.ref b13), (.ref b13)])
          refine own_go (fun t_ k_ => XS.aloadN X14.here hx rfl (hb hby d1_79) rfl rfl k_) ?_
          show own_Go p e below _ T14 (mkF m 80 #[.val (.ref b), .val (.int (Int32.ofNat n))] [(.ref b), (.int (0 : Int32)), (.ref b14), (.ref b14), (.ref b13), (.ref b13)])
          refine own_go (fun t_ k_ => XS.iconst X14.here hx rfl (hb hby d1_80) k_) ?_
          show own_Go p e below _ T14 (mkF m 81 #[.val (.ref b), .val (.int (Int32.ofNat n))] [(.int (0 : Int32)), (.ref b), (.int (0 : Int32)), (.ref b14), (.ref b14), (.ref b13), (.ref b13)])
          refine own_go (own_ldCA X14 hx hZ e14 (Ls := #[.val (.ref b), .val (.int (Int32.ofNat n))]) (rest := [(.int (0 : Int32)), (.ref b14), (.ref b14), (.ref b13), (.ref b13)]) ((V_b.ext E13).ext E14) (by omega) 0 (by omega) (hb hby d1_81)) ?_
          show own_Go p e below _ T14 (mkF m 82 #[.val (.ref b), .val (.int (Int32.ofNat n))] [(.int (f 0)), (.int (0 : Int32)), (.ref b14), (.ref b14), (.ref b13), (.ref b13)])
          obtain ⟨T15, h15, L15, X15, N15, e15, ⟨sl15, v15, W15⟩, V15, st15⟩ := own_stCA X14 hx hZ e14 V14 (by omega) 0 (by omega) (y := (f 0)) (hc _) (f' := (fun (x : Nat) => if x = 0 then (f 0) else (fun (_ : Nat) => (0 : Int32)) x)) (fun _ => rfl) N0 ge_b14 (Ls := #[.val (.ref b), .val (.int (Int32.ofNat n))]) (rest := [(.ref b14), (.ref b13), (.ref b13)]) (hb hby d1_82)
          have old15 := old14.wr W15 ge_b14
          have H15_b13_value := (F13_value.ext E14).other W15 (Or.inl ne_b13_b14)
          have H15_b13_coder := (F13_coder.ext E14).other W15 (Or.inl ne_b13_b14)
          refine own_go st15 ?_
          show own_Go p e below _ T15 (mkF m 83 #[.val (.ref b), .val (.int (Int32.ofNat n))] [(.ref b14), (.ref b13), (.ref b13)])
          refine own_go (fun t_ k_ => XS.dup X15.here hx rfl (hb hby d1_83) rfl rfl k_) ?_
          show own_Go p e below _ T15 (mkF m 84 #[.val (.ref b), .val (.int (Int32.ofNat n))] [(.ref b14), (.ref b14), (.ref b13), (.ref b13)])
          refine own_go (fun t_ k_ => XS.iconst X15.here hx rfl (hb hby d1_84) k_) ?_
          show own_Go p e below _ T15 (mkF m 85 #[.val (.ref b), .val (.int (Int32.ofNat n))] [(.int (1 : Int32)), (.ref b14), (.ref b14), (.ref b13), (.ref b13)])
          refine own_go (fun t_ k_ => XS.aloadN X15.here hx rfl (hb hby d1_85) rfl rfl k_) ?_
          show own_Go p e below _ T15 (mkF m 86 #[.val (.ref b), .val (.int (Int32.ofNat n))] [(.ref b), (.int (1 : Int32)), (.ref b14), (.ref b14), (.ref b13), (.ref b13)])
          refine own_go (fun t_ k_ => XS.iconst X15.here hx rfl (hb hby d1_86) k_) ?_
          show own_Go p e below _ T15 (mkF m 87 #[.val (.ref b), .val (.int (Int32.ofNat n))] [(.int (1 : Int32)), (.ref b), (.int (1 : Int32)), (.ref b14), (.ref b14), (.ref b13), (.ref b13)])
          refine own_go (own_ldCA X15 hx hZ e15 (Ls := #[.val (.ref b), .val (.int (Int32.ofNat n))]) (rest := [(.int (1 : Int32)), (.ref b14), (.ref b14), (.ref b13), (.ref b13)]) (((V_b.ext E13).ext E14).other W15 ne_b_b14) (by omega) 1 (by omega) (hb hby d1_87)) ?_
          show own_Go p e below _ T15 (mkF m 88 #[.val (.ref b), .val (.int (Int32.ofNat n))] [(.int (f 1)), (.int (1 : Int32)), (.ref b14), (.ref b14), (.ref b13), (.ref b13)])
          obtain ⟨T16, h16, L16, X16, N16, e16, ⟨sl16, v16, W16⟩, V16, st16⟩ := own_stCA X15 hx hZ e15 V15 (by omega) 1 (by omega) (y := (f 1)) (hc _) (f' := (fun (x : Nat) => if x = 1 then (f 1) else (fun (x : Nat) => if x = 0 then (f 0) else (fun (_ : Nat) => (0 : Int32)) x) x)) (fun _ => rfl) N15 ge_b14 (Ls := #[.val (.ref b), .val (.int (Int32.ofNat n))]) (rest := [(.ref b14), (.ref b13), (.ref b13)]) (hb hby d1_88)
          have old16 := old15.wr W16 ge_b14
          have H16_b13_value := H15_b13_value.other W16 (Or.inl ne_b13_b14)
          have H16_b13_coder := H15_b13_coder.other W16 (Or.inl ne_b13_b14)
          refine own_go st16 ?_
          show own_Go p e below _ T16 (mkF m 89 #[.val (.ref b), .val (.int (Int32.ofNat n))] [(.ref b14), (.ref b13), (.ref b13)])
          refine own_go (fun t_ k_ => XS.dup X16.here hx rfl (hb hby d1_89) rfl rfl k_) ?_
          show own_Go p e below _ T16 (mkF m 90 #[.val (.ref b), .val (.int (Int32.ofNat n))] [(.ref b14), (.ref b14), (.ref b13), (.ref b13)])
          refine own_go (fun t_ k_ => XS.iconst X16.here hx rfl (hb hby d1_90) k_) ?_
          show own_Go p e below _ T16 (mkF m 91 #[.val (.ref b), .val (.int (Int32.ofNat n))] [(.int (2 : Int32)), (.ref b14), (.ref b14), (.ref b13), (.ref b13)])
          refine own_go (fun t_ k_ => XS.aloadN X16.here hx rfl (hb hby d1_91) rfl rfl k_) ?_
          show own_Go p e below _ T16 (mkF m 92 #[.val (.ref b), .val (.int (Int32.ofNat n))] [(.ref b), (.int (2 : Int32)), (.ref b14), (.ref b14), (.ref b13), (.ref b13)])
          refine own_go (fun t_ k_ => XS.iconst X16.here hx rfl (hb hby d1_92) k_) ?_
          show own_Go p e below _ T16 (mkF m 93 #[.val (.ref b), .val (.int (Int32.ofNat n))] [(.int (2 : Int32)), (.ref b), (.int (2 : Int32)), (.ref b14), (.ref b14), (.ref b13), (.ref b13)])
          refine own_go (own_ldCA X16 hx hZ e16 (Ls := #[.val (.ref b), .val (.int (Int32.ofNat n))]) (rest := [(.int (2 : Int32)), (.ref b14), (.ref b14), (.ref b13), (.ref b13)]) ((((V_b.ext E13).ext E14).other W15 ne_b_b14).other W16 ne_b_b14) (by omega) 2 (by omega) (hb hby d1_93)) ?_
          show own_Go p e below _ T16 (mkF m 94 #[.val (.ref b), .val (.int (Int32.ofNat n))] [(.int (f 2)), (.int (2 : Int32)), (.ref b14), (.ref b14), (.ref b13), (.ref b13)])
          obtain ⟨T17, h17, L17, X17, N17, e17, ⟨sl17, v17, W17⟩, V17, st17⟩ := own_stCA X16 hx hZ e16 V16 (by omega) 2 (by omega) (y := (f 2)) (hc _) (f' := (fun (x : Nat) => if x = 2 then (f 2) else (fun (x : Nat) => if x = 1 then (f 1) else (fun (x : Nat) => if x = 0 then (f 0) else (fun (_ : Nat) => (0 : Int32)) x) x) x)) (fun _ => rfl) N16 ge_b14 (Ls := #[.val (.ref b), .val (.int (Int32.ofNat n))]) (rest := [(.ref b14), (.ref b13), (.ref b13)]) (hb hby d1_94)
          have old17 := old16.wr W17 ge_b14
          have H17_b13_value := H16_b13_value.other W17 (Or.inl ne_b13_b14)
          have H17_b13_coder := H16_b13_coder.other W17 (Or.inl ne_b13_b14)
          refine own_go st17 ?_
          show own_Go p e below _ T17 (mkF m 95 #[.val (.ref b), .val (.int (Int32.ofNat n))] [(.ref b14), (.ref b13), (.ref b13)])
          obtain ⟨_, T18, L18, X18, ⟨rfl, N18, K18, str18⟩, hS18, hZ, hown, st18⟩ := own_callCW X17 hx hZH (y := (⟨"java/lang/String", "<init>", "([C)V"⟩ : MethodName)) (b := b13) (argsL := [(.ref b14)]) (rest := [(.ref b13)]) (Ls := #[.val (.ref b), .val (.int (Int32.ofNat n))]) rfl hown (own_w hw 8 rfl) (own_w hw 9 rfl) (own_w hw 10 rfl) (own_w hw 7 rfl) (by decide) e17 (rmI1 l Z a0 hw [] b13 b14 3 f cs h17 n0 (own_oldge old17) old17 S_ad S_hi S_lo S_cs hcs hH hcw ((((A13.ext E14).wr W15).wr W16).wr W17) H17_b13_value H17_b13_coder ge_b13 (V17.cong (fun i hi => by match i, hi with | 0, _ => rfl | 1, _ => rfl | 2, _ => rfl | z + 3, hz => exact absurd hz (by omega))) hc (by decide)) 1 (by decide) (by decide) (by decide) (by decide) (by rw [hml]; rfl) (lenOf pd_17 rfl) rfl (Nat.le_of_eq rfl) (hb hby d1_95)
          have M18 := Fr.app N17 N18
          have old18 := old17.keep K18 (allS ge_b13 all0)
          refine own_go st18 ?_
          show own_Go p e below _ T18 (mkF m 98 #[.val (.ref b), .val (.int (Int32.ofNat n))] [(.ref b13)])
          refine own_retAW X18 hS18 (Nat.le_refl _) hx hlk hret (hb hby d1_98) rfl rfl (by decide) (by decide) ?_
          exact ⟨⟨b13, rfl, by rw [hk3]; exact ⟨str18, old18⟩⟩, M18⟩
        · show own_Go p e below _ T0 (mkF m 67 #[.val (.ref b), .val (.int (Int32.ofNat n))] [(.int (3 : Int32)), (.int (Int32.ofNat n))])
          refine own_go (fun t_ k_ => XS.icmpYes X0.here hx rfl (pc0 := 67) (pc' := 99) rfl (hb hby d1_67) rfl (XT.ii_ne_t (fun q => hk3 ((own_oEq (b := 3) (by omega) (by omega)).mp q))) (by decide) (by decide) k_) ?_
          show own_Go p e below _ T0 (mkF m 99 #[.val (.ref b), .val (.int (Int32.ofNat n))] [])
          refine own_go (fun t_ k_ => XS.iloadN X0.here hx rfl (hb hby d1_99) rfl k_) ?_
          show own_Go p e below _ T0 (mkF m 100 #[.val (.ref b), .val (.int (Int32.ofNat n))] [(.int (Int32.ofNat n))])
          refine own_go (fun t_ k_ => XS.iconst X0.here hx rfl (hb hby d1_100) k_) ?_
          show own_Go p e below _ T0 (mkF m 101 #[.val (.ref b), .val (.int (Int32.ofNat n))] [(.int (4 : Int32)), (.int (Int32.ofNat n))])
          by_cases hk4 : n = 4
          · show own_Go p e below _ T0 (mkF m 101 #[.val (.ref b), .val (.int (Int32.ofNat n))] [(.int (4 : Int32)), (.int (Int32.ofNat n))])
            refine own_go (fun t_ k_ => XS.icmpNo X0.here hx rfl (hb hby d1_101) rfl (XT.ii_ne_f ((own_oEq (b := 4) (by omega) (by omega)).mpr hk4)) k_) ?_
            show own_Go p e below _ T0 (mkF m 104 #[.val (.ref b), .val (.int (Int32.ofNat n))] [])
            obtain ⟨T19, h19, b19, X19, e19, E19, g19, A19, D19, st19⟩ := own_newO X0 hx hZ hown (own_w hw 5 rfl) (own_w hw 6 rfl) (own_w hw 7 rfl) e0 (Ls := #[.val (.ref b), .val (.int (Int32.ofNat n))]) (st := []) (hb hby d1_104) (by decide) (by decide)
            have ge_b19 : n0 ≤ b19 := g19 ▸ own_oldge O0
            have old19 := O0.ext E19
            have F19_value : Fld Z h19 b19 "java/lang/String" "value" "[B" .null := D19 (Or.inr (own_w hw 20 rfl)) (ty := (.array .byte)) (by decide)
            have F19_coder : Fld Z h19 b19 "java/lang/String" "coder" "B" (.int (0 : Int32)) := D19 (Or.inr (own_w hw 21 rfl)) (ty := .byte) (by decide)
            refine own_go st19 ?_
            show own_Go p e below _ T19 (mkF m 107 #[.val (.ref b), .val (.int (Int32.ofNat n))] [(.ref b19)])
            refine own_go (fun t_ k_ => XS.dup X19.here hx rfl (hb hby d1_107) rfl rfl k_) ?_
            show own_Go p e below _ T19 (mkF m 108 #[.val (.ref b), .val (.int (Int32.ofNat n))] [(.ref b19), (.ref b19)])
            refine own_go (fun t_ k_ => XS.iconst X19.here hx rfl (hb hby d1_108) k_) ?_
            show own_Go p e below _ T19 (mkF m 109 #[.val (.ref b), .val (.int (Int32.ofNat n))] [(.int (4 : Int32)), (.ref b19), (.ref b19)])
            obtain ⟨T20, h20, b20, X20, e20, E20, g20, V20, st20⟩ := own_newCA X19 hx hZ (own_w hw 0 rfl) e19 (Ls := #[.val (.ref b), .val (.int (Int32.ofNat n))]) (rest := [(.ref b19), (.ref b19)]) (hb hby d1_109) 4 6 (by omega) (by decide) (by decide) (by decide)
            have ge_b20 : n0 ≤ b20 := g20 ▸ own_oldge old19
            have old20 := old19.ext E20
            refine own_go st20 ?_
            show own_Go p e below _ T20 (mkF m 111 #[.val (.ref b), .val (.int (Int32.ofNat n))] [(.ref b20), (.ref b19), (.ref b19)])
            have ne_b_b20 : b ≠ b20 := fun q => absurd V_b.lt (by rw [q, g20]; exact Nat.not_lt.mpr E19.1)
            have ne_b19_b20 : b19 ≠ b20 := own_exaCA (A19.ext E20) V20 (own_w hw 6 rfl)
            refine own_go (fun t_ k_ => XS.dup X20.here hx rfl (hb hby d1_111) rfl rfl k_) ?_
            show own_Go p e below _ T20 (mkF m 112 #[.val (.ref b), .val (.int (Int32.ofNat n))] [(.ref b20), (.ref b20), (.ref b19), (.ref b19)])
            refine own_go (fun t_ k_ => XS.iconst X20.here hx rfl (hb hby d1_112) k_) ?_
            show own_Go p e below _ T20 (mkF m 113 #[.val (.ref b), .val (.int (Int32.ofNat n))] [(.int (0 : Int32)), (.ref b20), (.ref b20), (.ref b19), (.ref b19)])
            refine own_go (fun t_ k_ => XS.aloadN X20.here hx rfl (hb hby d1_113) rfl rfl k_) ?_
            show own_Go p e below _ T20 (mkF m 114 #[.val (.ref b), .val (.int (Int32.ofNat n))] [(.ref b), (.int (0 : Int32)), (.ref b20), (.ref b20), (.ref b19), (.ref b19)])
            refine own_go (fun t_ k_ => XS.iconst X20.here hx rfl (hb hby d1_114) k_) ?_
            show own_Go p e below _ T20 (mkF m 115 #[.val (.ref b), .val (.int (Int32.ofNat n))] [(.int (0 : Int32)), (.ref b), (.int (0 : Int32)), (.ref b20), (.ref b20), (.ref b19), (.ref b19)])
            refine own_go (own_ldCA X20 hx hZ e20 (Ls := #[.val (.ref b), .val (.int (Int32.ofNat n))]) (rest := [(.int (0 : Int32)), (.ref b20), (.ref b20), (.ref b19), (.ref b19)]) ((V_b.ext E19).ext E20) (by omega) 0 (by omega) (hb hby d1_115)) ?_
            show own_Go p e below _ T20 (mkF m 116 #[.val (.ref b), .val (.int (Int32.ofNat n))] [(.int (f 0)), (.int (0 : Int32)), (.ref b20), (.ref b20), (.ref b19), (.ref b19)])
            obtain ⟨T21, h21, L21, X21, N21, e21, ⟨sl21, v21, W21⟩, V21, st21⟩ := own_stCA X20 hx hZ e20 V20 (by omega) 0 (by omega) (y := (f 0)) (hc _) (f' := (fun (x : Nat) => if x = 0 then (f 0) else (fun (_ : Nat) => (0 : Int32)) x)) (fun _ => rfl) N0 ge_b20 (Ls := #[.val (.ref b), .val (.int (Int32.ofNat n))]) (rest := [(.ref b20), (.ref b19), (.ref b19)]) (hb hby d1_116)
            have old21 := old20.wr W21 ge_b20
            have H21_b19_value := (F19_value.ext E20).other W21 (Or.inl ne_b19_b20)
            have H21_b19_coder := (F19_coder.ext E20).other W21 (Or.inl ne_b19_b20)
            refine own_go st21 ?_
            show own_Go p e below _ T21 (mkF m 117 #[.val (.ref b), .val (.int (Int32.ofNat n))] [(.ref b20), (.ref b19), (.ref b19)])
            refine own_go (fun t_ k_ => XS.dup X21.here hx rfl (hb hby d1_117) rfl rfl k_) ?_
            show own_Go p e below _ T21 (mkF m 118 #[.val (.ref b), .val (.int (Int32.ofNat n))] [(.ref b20), (.ref b20), (.ref b19), (.ref b19)])
            refine own_go (fun t_ k_ => XS.iconst X21.here hx rfl (hb hby d1_118) k_) ?_
            show own_Go p e below _ T21 (mkF m 119 #[.val (.ref b), .val (.int (Int32.ofNat n))] [(.int (1 : Int32)), (.ref b20), (.ref b20), (.ref b19), (.ref b19)])
            refine own_go (fun t_ k_ => XS.aloadN X21.here hx rfl (hb hby d1_119) rfl rfl k_) ?_
            show own_Go p e below _ T21 (mkF m 120 #[.val (.ref b), .val (.int (Int32.ofNat n))] [(.ref b), (.int (1 : Int32)), (.ref b20), (.ref b20), (.ref b19), (.ref b19)])
            refine own_go (fun t_ k_ => XS.iconst X21.here hx rfl (hb hby d1_120) k_) ?_
            show own_Go p e below _ T21 (mkF m 121 #[.val (.ref b), .val (.int (Int32.ofNat n))] [(.int (1 : Int32)), (.ref b), (.int (1 : Int32)), (.ref b20), (.ref b20), (.ref b19), (.ref b19)])
            refine own_go (own_ldCA X21 hx hZ e21 (Ls := #[.val (.ref b), .val (.int (Int32.ofNat n))]) (rest := [(.int (1 : Int32)), (.ref b20), (.ref b20), (.ref b19), (.ref b19)]) (((V_b.ext E19).ext E20).other W21 ne_b_b20) (by omega) 1 (by omega) (hb hby d1_121)) ?_
            show own_Go p e below _ T21 (mkF m 122 #[.val (.ref b), .val (.int (Int32.ofNat n))] [(.int (f 1)), (.int (1 : Int32)), (.ref b20), (.ref b20), (.ref b19), (.ref b19)])
            obtain ⟨T22, h22, L22, X22, N22, e22, ⟨sl22, v22, W22⟩, V22, st22⟩ := own_stCA X21 hx hZ e21 V21 (by omega) 1 (by omega) (y := (f 1)) (hc _) (f' := (fun (x : Nat) => if x = 1 then (f 1) else (fun (x : Nat) => if x = 0 then (f 0) else (fun (_ : Nat) => (0 : Int32)) x) x)) (fun _ => rfl) N21 ge_b20 (Ls := #[.val (.ref b), .val (.int (Int32.ofNat n))]) (rest := [(.ref b20), (.ref b19), (.ref b19)]) (hb hby d1_122)
            have old22 := old21.wr W22 ge_b20
            have H22_b19_value := H21_b19_value.other W22 (Or.inl ne_b19_b20)
            have H22_b19_coder := H21_b19_coder.other W22 (Or.inl ne_b19_b20)
            refine own_go st22 ?_
            show own_Go p e below _ T22 (mkF m 123 #[.val (.ref b), .val (.int (Int32.ofNat n))] [(.ref b20), (.ref b19), (.ref b19)])
            refine own_go (fun t_ k_ => XS.dup X22.here hx rfl (hb hby d1_123) rfl rfl k_) ?_
            show own_Go p e below _ T22 (mkF m 124 #[.val (.ref b), .val (.int (Int32.ofNat n))] [(.ref b20), (.ref b20), (.ref b19), (.ref b19)])
            refine own_go (fun t_ k_ => XS.iconst X22.here hx rfl (hb hby d1_124) k_) ?_
            show own_Go p e below _ T22 (mkF m 125 #[.val (.ref b), .val (.int (Int32.ofNat n))] [(.int (2 : Int32)), (.ref b20), (.ref b20), (.ref b19), (.ref b19)])
            refine own_go (fun t_ k_ => XS.aloadN X22.here hx rfl (hb hby d1_125) rfl rfl k_) ?_
            show own_Go p e below _ T22 (mkF m 126 #[.val (.ref b), .val (.int (Int32.ofNat n))] [(.ref b), (.int (2 : Int32)), (.ref b20), (.ref b20), (.ref b19), (.ref b19)])
            refine own_go (fun t_ k_ => XS.iconst X22.here hx rfl (hb hby d1_126) k_) ?_
            show own_Go p e below _ T22 (mkF m 127 #[.val (.ref b), .val (.int (Int32.ofNat n))] [(.int (2 : Int32)), (.ref b), (.int (2 : Int32)), (.ref b20), (.ref b20), (.ref b19), (.ref b19)])
            refine own_go (own_ldCA X22 hx hZ e22 (Ls := #[.val (.ref b), .val (.int (Int32.ofNat n))]) (rest := [(.int (2 : Int32)), (.ref b20), (.ref b20), (.ref b19), (.ref b19)]) ((((V_b.ext E19).ext E20).other W21 ne_b_b20).other W22 ne_b_b20) (by omega) 2 (by omega) (hb hby d1_127)) ?_
            show own_Go p e below _ T22 (mkF m 128 #[.val (.ref b), .val (.int (Int32.ofNat n))] [(.int (f 2)), (.int (2 : Int32)), (.ref b20), (.ref b20), (.ref b19), (.ref b19)])
            obtain ⟨T23, h23, L23, X23, N23, e23, ⟨sl23, v23, W23⟩, V23, st23⟩ := own_stCA X22 hx hZ e22 V22 (by omega) 2 (by omega) (y := (f 2)) (hc _) (f' := (fun (x : Nat) => if x = 2 then (f 2) else (fun (x : Nat) => if x = 1 then (f 1) else (fun (x : Nat) => if x = 0 then (f 0) else (fun (_ : Nat) => (0 : Int32)) x) x) x)) (fun _ => rfl) N22 ge_b20 (Ls := #[.val (.ref b), .val (.int (Int32.ofNat n))]) (rest := [(.ref b20), (.ref b19), (.ref b19)]) (hb hby d1_128)
            have old23 := old22.wr W23 ge_b20
            have H23_b19_value := H22_b19_value.other W23 (Or.inl ne_b19_b20)
            have H23_b19_coder := H22_b19_coder.other W23 (Or.inl ne_b19_b20)
            refine own_go st23 ?_
            show own_Go p e below _ T23 (mkF m 129 #[.val (.ref b), .val (.int (Int32.ofNat n))] [(.ref b20), (.ref b19), (.ref b19)])
            refine own_go (fun t_ k_ => XS.dup X23.here hx rfl (hb hby d1_129) rfl rfl k_) ?_
            show own_Go p e below _ T23 (mkF m 130 #[.val (.ref b), .val (.int (Int32.ofNat n))] [(.ref b20), (.ref b20), (.ref b19), (.ref b19)])
            refine own_go (fun t_ k_ => XS.iconst X23.here hx rfl (hb hby d1_130) k_) ?_
            show own_Go p e below _ T23 (mkF m 131 #[.val (.ref b), .val (.int (Int32.ofNat n))] [(.int (3 : Int32)), (.ref b20), (.ref b20), (.ref b19), (.ref b19)])
            refine own_go (fun t_ k_ => XS.aloadN X23.here hx rfl (hb hby d1_131) rfl rfl k_) ?_
            show own_Go p e below _ T23 (mkF m 132 #[.val (.ref b), .val (.int (Int32.ofNat n))] [(.ref b), (.int (3 : Int32)), (.ref b20), (.ref b20), (.ref b19), (.ref b19)])
            refine own_go (fun t_ k_ => XS.iconst X23.here hx rfl (hb hby d1_132) k_) ?_
            show own_Go p e below _ T23 (mkF m 133 #[.val (.ref b), .val (.int (Int32.ofNat n))] [(.int (3 : Int32)), (.ref b), (.int (3 : Int32)), (.ref b20), (.ref b20), (.ref b19), (.ref b19)])
            refine own_go (own_ldCA X23 hx hZ e23 (Ls := #[.val (.ref b), .val (.int (Int32.ofNat n))]) (rest := [(.int (3 : Int32)), (.ref b20), (.ref b20), (.ref b19), (.ref b19)]) (((((V_b.ext E19).ext E20).other W21 ne_b_b20).other W22 ne_b_b20).other W23 ne_b_b20) (by omega) 3 (by omega) (hb hby d1_133)) ?_
            show own_Go p e below _ T23 (mkF m 134 #[.val (.ref b), .val (.int (Int32.ofNat n))] [(.int (f 3)), (.int (3 : Int32)), (.ref b20), (.ref b20), (.ref b19), (.ref b19)])
            obtain ⟨T24, h24, L24, X24, N24, e24, ⟨sl24, v24, W24⟩, V24, st24⟩ := own_stCA X23 hx hZ e23 V23 (by omega) 3 (by omega) (y := (f 3)) (hc _) (f' := (fun (x : Nat) => if x = 3 then (f 3) else (fun (x : Nat) => if x = 2 then (f 2) else (fun (x : Nat) => if x = 1 then (f 1) else (fun (x : Nat) => if x = 0 then (f 0) else (fun (_ : Nat) => (0 : Int32)) x) x) x) x)) (fun _ => rfl) N23 ge_b20 (Ls := #[.val (.ref b), .val (.int (Int32.ofNat n))]) (rest := [(.ref b20), (.ref b19), (.ref b19)]) (hb hby d1_134)
            have old24 := old23.wr W24 ge_b20
            have H24_b19_value := H23_b19_value.other W24 (Or.inl ne_b19_b20)
            have H24_b19_coder := H23_b19_coder.other W24 (Or.inl ne_b19_b20)
            refine own_go st24 ?_
            show own_Go p e below _ T24 (mkF m 135 #[.val (.ref b), .val (.int (Int32.ofNat n))] [(.ref b20), (.ref b19), (.ref b19)])
            obtain ⟨_, T25, L25, X25, ⟨rfl, N25, K25, str25⟩, hS25, hZ, hown, st25⟩ := own_callCW X24 hx hZH (y := (⟨"java/lang/String", "<init>", "([C)V"⟩ : MethodName)) (b := b19) (argsL := [(.ref b20)]) (rest := [(.ref b19)]) (Ls := #[.val (.ref b), .val (.int (Int32.ofNat n))]) rfl hown (own_w hw 8 rfl) (own_w hw 9 rfl) (own_w hw 10 rfl) (own_w hw 7 rfl) (by decide) e24 (rmI1 l Z a0 hw [] b19 b20 4 f cs h24 n0 (own_oldge old24) old24 S_ad S_hi S_lo S_cs hcs hH hcw (((((A19.ext E20).wr W21).wr W22).wr W23).wr W24) H24_b19_value H24_b19_coder ge_b19 (V24.cong (fun i hi => by match i, hi with | 0, _ => rfl | 1, _ => rfl | 2, _ => rfl | 3, _ => rfl | z + 4, hz => exact absurd hz (by omega))) hc (by decide)) 1 (by decide) (by decide) (by decide) (by decide) (by rw [hml]; rfl) (lenOf pd_17 rfl) rfl (Nat.le_of_eq rfl) (hb hby d1_135)
            have M25 := Fr.app N24 N25
            have old25 := old24.keep K25 (allS ge_b19 all0)
            refine own_go st25 ?_
            show own_Go p e below _ T25 (mkF m 138 #[.val (.ref b), .val (.int (Int32.ofNat n))] [(.ref b19)])
            refine own_retAW X25 hS25 (Nat.le_refl _) hx hlk hret (hb hby d1_138) rfl rfl (by decide) (by decide) ?_
            exact ⟨⟨b19, rfl, by rw [hk4]; exact ⟨str25, old25⟩⟩, M25⟩
          · show own_Go p e below _ T0 (mkF m 101 #[.val (.ref b), .val (.int (Int32.ofNat n))] [(.int (4 : Int32)), (.int (Int32.ofNat n))])
            refine own_go (fun t_ k_ => XS.icmpYes X0.here hx rfl (pc0 := 101) (pc' := 139) rfl (hb hby d1_101) rfl (XT.ii_ne_t (fun q => hk4 ((own_oEq (b := 4) (by omega) (by omega)).mp q))) (by decide) (by decide) k_) ?_
            show own_Go p e below _ T0 (mkF m 139 #[.val (.ref b), .val (.int (Int32.ofNat n))] [])
            refine own_go (fun t_ k_ => XS.iloadN X0.here hx rfl (hb hby d1_139) rfl k_) ?_
            show own_Go p e below _ T0 (mkF m 140 #[.val (.ref b), .val (.int (Int32.ofNat n))] [(.int (Int32.ofNat n))])
            refine own_go (fun t_ k_ => XS.iconst X0.here hx rfl (hb hby d1_140) k_) ?_
            show own_Go p e below _ T0 (mkF m 141 #[.val (.ref b), .val (.int (Int32.ofNat n))] [(.int (5 : Int32)), (.int (Int32.ofNat n))])
            by_cases hk5 : n = 5
            · show own_Go p e below _ T0 (mkF m 141 #[.val (.ref b), .val (.int (Int32.ofNat n))] [(.int (5 : Int32)), (.int (Int32.ofNat n))])
              refine own_go (fun t_ k_ => XS.icmpNo X0.here hx rfl (hb hby d1_141) rfl (XT.ii_ne_f ((own_oEq (b := 5) (by omega) (by omega)).mpr hk5)) k_) ?_
              show own_Go p e below _ T0 (mkF m 144 #[.val (.ref b), .val (.int (Int32.ofNat n))] [])
              obtain ⟨T26, h26, b26, X26, e26, E26, g26, A26, D26, st26⟩ := own_newO X0 hx hZ hown (own_w hw 5 rfl) (own_w hw 6 rfl) (own_w hw 7 rfl) e0 (Ls := #[.val (.ref b), .val (.int (Int32.ofNat n))]) (st := []) (hb hby d1_144) (by decide) (by decide)
              have ge_b26 : n0 ≤ b26 := g26 ▸ own_oldge O0
              have old26 := O0.ext E26
              have F26_value : Fld Z h26 b26 "java/lang/String" "value" "[B" .null := D26 (Or.inr (own_w hw 20 rfl)) (ty := (.array .byte)) (by decide)
              have F26_coder : Fld Z h26 b26 "java/lang/String" "coder" "B" (.int (0 : Int32)) := D26 (Or.inr (own_w hw 21 rfl)) (ty := .byte) (by decide)
              refine own_go st26 ?_
              show own_Go p e below _ T26 (mkF m 147 #[.val (.ref b), .val (.int (Int32.ofNat n))] [(.ref b26)])
              refine own_go (fun t_ k_ => XS.dup X26.here hx rfl (hb hby d1_147) rfl rfl k_) ?_
              show own_Go p e below _ T26 (mkF m 148 #[.val (.ref b), .val (.int (Int32.ofNat n))] [(.ref b26), (.ref b26)])
              refine own_go (fun t_ k_ => XS.iconst X26.here hx rfl (hb hby d1_148) k_) ?_
              show own_Go p e below _ T26 (mkF m 149 #[.val (.ref b), .val (.int (Int32.ofNat n))] [(.int (5 : Int32)), (.ref b26), (.ref b26)])
              obtain ⟨T27, h27, b27, X27, e27, E27, g27, V27, st27⟩ := own_newCA X26 hx hZ (own_w hw 0 rfl) e26 (Ls := #[.val (.ref b), .val (.int (Int32.ofNat n))]) (rest := [(.ref b26), (.ref b26)]) (hb hby d1_149) 5 6 (by omega) (by decide) (by decide) (by decide)
              have ge_b27 : n0 ≤ b27 := g27 ▸ own_oldge old26
              have old27 := old26.ext E27
              refine own_go st27 ?_
              show own_Go p e below _ T27 (mkF m 151 #[.val (.ref b), .val (.int (Int32.ofNat n))] [(.ref b27), (.ref b26), (.ref b26)])
              have ne_b_b27 : b ≠ b27 := fun q => absurd V_b.lt (by rw [q, g27]; exact Nat.not_lt.mpr E26.1)
              have ne_b26_b27 : b26 ≠ b27 := own_exaCA (A26.ext E27) V27 (own_w hw 6 rfl)
              refine own_go (fun t_ k_ => XS.dup X27.here hx rfl (hb hby d1_151) rfl rfl k_) ?_
              show own_Go p e below _ T27 (mkF m 152 #[.val (.ref b), .val (.int (Int32.ofNat n))] [(.ref b27), (.ref b27), (.ref b26), (.ref b26)])
              refine own_go (fun t_ k_ => XS.iconst X27.here hx rfl (hb hby d1_152) k_) ?_
              show own_Go p e below _ T27 (mkF m 153 #[.val (.ref b), .val (.int (Int32.ofNat n))] [(.int (0 : Int32)), (.ref b27), (.ref b27), (.ref b26), (.ref b26)])
              refine own_go (fun t_ k_ => XS.aloadN X27.here hx rfl (hb hby d1_153) rfl rfl k_) ?_
              show own_Go p e below _ T27 (mkF m 154 #[.val (.ref b), .val (.int (Int32.ofNat n))] [(.ref b), (.int (0 : Int32)), (.ref b27), (.ref b27), (.ref b26), (.ref b26)])
              refine own_go (fun t_ k_ => XS.iconst X27.here hx rfl (hb hby d1_154) k_) ?_
              show own_Go p e below _ T27 (mkF m 155 #[.val (.ref b), .val (.int (Int32.ofNat n))] [(.int (0 : Int32)), (.ref b), (.int (0 : Int32)), (.ref b27), (.ref b27), (.ref b26), (.ref b26)])
              refine own_go (own_ldCA X27 hx hZ e27 (Ls := #[.val (.ref b), .val (.int (Int32.ofNat n))]) (rest := [(.int (0 : Int32)), (.ref b27), (.ref b27), (.ref b26), (.ref b26)]) ((V_b.ext E26).ext E27) (by omega) 0 (by omega) (hb hby d1_155)) ?_
              show own_Go p e below _ T27 (mkF m 156 #[.val (.ref b), .val (.int (Int32.ofNat n))] [(.int (f 0)), (.int (0 : Int32)), (.ref b27), (.ref b27), (.ref b26), (.ref b26)])
              obtain ⟨T28, h28, L28, X28, N28, e28, ⟨sl28, v28, W28⟩, V28, st28⟩ := own_stCA X27 hx hZ e27 V27 (by omega) 0 (by omega) (y := (f 0)) (hc _) (f' := (fun (x : Nat) => if x = 0 then (f 0) else (fun (_ : Nat) => (0 : Int32)) x)) (fun _ => rfl) N0 ge_b27 (Ls := #[.val (.ref b), .val (.int (Int32.ofNat n))]) (rest := [(.ref b27), (.ref b26), (.ref b26)]) (hb hby d1_156)
              have old28 := old27.wr W28 ge_b27
              have H28_b26_value := (F26_value.ext E27).other W28 (Or.inl ne_b26_b27)
              have H28_b26_coder := (F26_coder.ext E27).other W28 (Or.inl ne_b26_b27)
              refine own_go st28 ?_
              show own_Go p e below _ T28 (mkF m 157 #[.val (.ref b), .val (.int (Int32.ofNat n))] [(.ref b27), (.ref b26), (.ref b26)])
              refine own_go (fun t_ k_ => XS.dup X28.here hx rfl (hb hby d1_157) rfl rfl k_) ?_
              show own_Go p e below _ T28 (mkF m 158 #[.val (.ref b), .val (.int (Int32.ofNat n))] [(.ref b27), (.ref b27), (.ref b26), (.ref b26)])
              refine own_go (fun t_ k_ => XS.iconst X28.here hx rfl (hb hby d1_158) k_) ?_
              show own_Go p e below _ T28 (mkF m 159 #[.val (.ref b), .val (.int (Int32.ofNat n))] [(.int (1 : Int32)), (.ref b27), (.ref b27), (.ref b26), (.ref b26)])
              refine own_go (fun t_ k_ => XS.aloadN X28.here hx rfl (hb hby d1_159) rfl rfl k_) ?_
              show own_Go p e below _ T28 (mkF m 160 #[.val (.ref b), .val (.int (Int32.ofNat n))] [(.ref b), (.int (1 : Int32)), (.ref b27), (.ref b27), (.ref b26), (.ref b26)])
              refine own_go (fun t_ k_ => XS.iconst X28.here hx rfl (hb hby d1_160) k_) ?_
              show own_Go p e below _ T28 (mkF m 161 #[.val (.ref b), .val (.int (Int32.ofNat n))] [(.int (1 : Int32)), (.ref b), (.int (1 : Int32)), (.ref b27), (.ref b27), (.ref b26), (.ref b26)])
              refine own_go (own_ldCA X28 hx hZ e28 (Ls := #[.val (.ref b), .val (.int (Int32.ofNat n))]) (rest := [(.int (1 : Int32)), (.ref b27), (.ref b27), (.ref b26), (.ref b26)]) (((V_b.ext E26).ext E27).other W28 ne_b_b27) (by omega) 1 (by omega) (hb hby d1_161)) ?_
              show own_Go p e below _ T28 (mkF m 162 #[.val (.ref b), .val (.int (Int32.ofNat n))] [(.int (f 1)), (.int (1 : Int32)), (.ref b27), (.ref b27), (.ref b26), (.ref b26)])
              obtain ⟨T29, h29, L29, X29, N29, e29, ⟨sl29, v29, W29⟩, V29, st29⟩ := own_stCA X28 hx hZ e28 V28 (by omega) 1 (by omega) (y := (f 1)) (hc _) (f' := (fun (x : Nat) => if x = 1 then (f 1) else (fun (x : Nat) => if x = 0 then (f 0) else (fun (_ : Nat) => (0 : Int32)) x) x)) (fun _ => rfl) N28 ge_b27 (Ls := #[.val (.ref b), .val (.int (Int32.ofNat n))]) (rest := [(.ref b27), (.ref b26), (.ref b26)]) (hb hby d1_162)
              have old29 := old28.wr W29 ge_b27
              have H29_b26_value := H28_b26_value.other W29 (Or.inl ne_b26_b27)
              have H29_b26_coder := H28_b26_coder.other W29 (Or.inl ne_b26_b27)
              refine own_go st29 ?_
              show own_Go p e below _ T29 (mkF m 163 #[.val (.ref b), .val (.int (Int32.ofNat n))] [(.ref b27), (.ref b26), (.ref b26)])
              refine own_go (fun t_ k_ => XS.dup X29.here hx rfl (hb hby d1_163) rfl rfl k_) ?_
              show own_Go p e below _ T29 (mkF m 164 #[.val (.ref b), .val (.int (Int32.ofNat n))] [(.ref b27), (.ref b27), (.ref b26), (.ref b26)])
              refine own_go (fun t_ k_ => XS.iconst X29.here hx rfl (hb hby d1_164) k_) ?_
              show own_Go p e below _ T29 (mkF m 165 #[.val (.ref b), .val (.int (Int32.ofNat n))] [(.int (2 : Int32)), (.ref b27), (.ref b27), (.ref b26), (.ref b26)])
              refine own_go (fun t_ k_ => XS.aloadN X29.here hx rfl (hb hby d1_165) rfl rfl k_) ?_
              show own_Go p e below _ T29 (mkF m 166 #[.val (.ref b), .val (.int (Int32.ofNat n))] [(.ref b), (.int (2 : Int32)), (.ref b27), (.ref b27), (.ref b26), (.ref b26)])
              refine own_go (fun t_ k_ => XS.iconst X29.here hx rfl (hb hby d1_166) k_) ?_
              show own_Go p e below _ T29 (mkF m 167 #[.val (.ref b), .val (.int (Int32.ofNat n))] [(.int (2 : Int32)), (.ref b), (.int (2 : Int32)), (.ref b27), (.ref b27), (.ref b26), (.ref b26)])
              refine own_go (own_ldCA X29 hx hZ e29 (Ls := #[.val (.ref b), .val (.int (Int32.ofNat n))]) (rest := [(.int (2 : Int32)), (.ref b27), (.ref b27), (.ref b26), (.ref b26)]) ((((V_b.ext E26).ext E27).other W28 ne_b_b27).other W29 ne_b_b27) (by omega) 2 (by omega) (hb hby d1_167)) ?_
              show own_Go p e below _ T29 (mkF m 168 #[.val (.ref b), .val (.int (Int32.ofNat n))] [(.int (f 2)), (.int (2 : Int32)), (.ref b27), (.ref b27), (.ref b26), (.ref b26)])
              obtain ⟨T30, h30, L30, X30, N30, e30, ⟨sl30, v30, W30⟩, V30, st30⟩ := own_stCA X29 hx hZ e29 V29 (by omega) 2 (by omega) (y := (f 2)) (hc _) (f' := (fun (x : Nat) => if x = 2 then (f 2) else (fun (x : Nat) => if x = 1 then (f 1) else (fun (x : Nat) => if x = 0 then (f 0) else (fun (_ : Nat) => (0 : Int32)) x) x) x)) (fun _ => rfl) N29 ge_b27 (Ls := #[.val (.ref b), .val (.int (Int32.ofNat n))]) (rest := [(.ref b27), (.ref b26), (.ref b26)]) (hb hby d1_168)
              have old30 := old29.wr W30 ge_b27
              have H30_b26_value := H29_b26_value.other W30 (Or.inl ne_b26_b27)
              have H30_b26_coder := H29_b26_coder.other W30 (Or.inl ne_b26_b27)
              refine own_go st30 ?_
              show own_Go p e below _ T30 (mkF m 169 #[.val (.ref b), .val (.int (Int32.ofNat n))] [(.ref b27), (.ref b26), (.ref b26)])
              refine own_go (fun t_ k_ => XS.dup X30.here hx rfl (hb hby d1_169) rfl rfl k_) ?_
              show own_Go p e below _ T30 (mkF m 170 #[.val (.ref b), .val (.int (Int32.ofNat n))] [(.ref b27), (.ref b27), (.ref b26), (.ref b26)])
              refine own_go (fun t_ k_ => XS.iconst X30.here hx rfl (hb hby d1_170) k_) ?_
              show own_Go p e below _ T30 (mkF m 171 #[.val (.ref b), .val (.int (Int32.ofNat n))] [(.int (3 : Int32)), (.ref b27), (.ref b27), (.ref b26), (.ref b26)])
              refine own_go (fun t_ k_ => XS.aloadN X30.here hx rfl (hb hby d1_171) rfl rfl k_) ?_
              show own_Go p e below _ T30 (mkF m 172 #[.val (.ref b), .val (.int (Int32.ofNat n))] [(.ref b), (.int (3 : Int32)), (.ref b27), (.ref b27), (.ref b26), (.ref b26)])
              refine own_go (fun t_ k_ => XS.iconst X30.here hx rfl (hb hby d1_172) k_) ?_
              show own_Go p e below _ T30 (mkF m 173 #[.val (.ref b), .val (.int (Int32.ofNat n))] [(.int (3 : Int32)), (.ref b), (.int (3 : Int32)), (.ref b27), (.ref b27), (.ref b26), (.ref b26)])
              refine own_go (own_ldCA X30 hx hZ e30 (Ls := #[.val (.ref b), .val (.int (Int32.ofNat n))]) (rest := [(.int (3 : Int32)), (.ref b27), (.ref b27), (.ref b26), (.ref b26)]) (((((V_b.ext E26).ext E27).other W28 ne_b_b27).other W29 ne_b_b27).other W30 ne_b_b27) (by omega) 3 (by omega) (hb hby d1_173)) ?_
              show own_Go p e below _ T30 (mkF m 174 #[.val (.ref b), .val (.int (Int32.ofNat n))] [(.int (f 3)), (.int (3 : Int32)), (.ref b27), (.ref b27), (.ref b26), (.ref b26)])
              obtain ⟨T31, h31, L31, X31, N31, e31, ⟨sl31, v31, W31⟩, V31, st31⟩ := own_stCA X30 hx hZ e30 V30 (by omega) 3 (by omega) (y := (f 3)) (hc _) (f' := (fun (x : Nat) => if x = 3 then (f 3) else (fun (x : Nat) => if x = 2 then (f 2) else (fun (x : Nat) => if x = 1 then (f 1) else (fun (x : Nat) => if x = 0 then (f 0) else (fun (_ : Nat) => (0 : Int32)) x) x) x) x)) (fun _ => rfl) N30 ge_b27 (Ls := #[.val (.ref b), .val (.int (Int32.ofNat n))]) (rest := [(.ref b27), (.ref b26), (.ref b26)]) (hb hby d1_174)
              have old31 := old30.wr W31 ge_b27
              have H31_b26_value := H30_b26_value.other W31 (Or.inl ne_b26_b27)
              have H31_b26_coder := H30_b26_coder.other W31 (Or.inl ne_b26_b27)
              refine own_go st31 ?_
              show own_Go p e below _ T31 (mkF m 175 #[.val (.ref b), .val (.int (Int32.ofNat n))] [(.ref b27), (.ref b26), (.ref b26)])
              refine own_go (fun t_ k_ => XS.dup X31.here hx rfl (hb hby d1_175) rfl rfl k_) ?_
              show own_Go p e below _ T31 (mkF m 176 #[.val (.ref b), .val (.int (Int32.ofNat n))] [(.ref b27), (.ref b27), (.ref b26), (.ref b26)])
              refine own_go (fun t_ k_ => XS.iconst X31.here hx rfl (hb hby d1_176) k_) ?_
              show own_Go p e below _ T31 (mkF m 177 #[.val (.ref b), .val (.int (Int32.ofNat n))] [(.int (4 : Int32)), (.ref b27), (.ref b27), (.ref b26), (.ref b26)])
              refine own_go (fun t_ k_ => XS.aloadN X31.here hx rfl (hb hby d1_177) rfl rfl k_) ?_
              show own_Go p e below _ T31 (mkF m 178 #[.val (.ref b), .val (.int (Int32.ofNat n))] [(.ref b), (.int (4 : Int32)), (.ref b27), (.ref b27), (.ref b26), (.ref b26)])
              refine own_go (fun t_ k_ => XS.iconst X31.here hx rfl (hb hby d1_178) k_) ?_
              show own_Go p e below _ T31 (mkF m 179 #[.val (.ref b), .val (.int (Int32.ofNat n))] [(.int (4 : Int32)), (.ref b), (.int (4 : Int32)), (.ref b27), (.ref b27), (.ref b26), (.ref b26)])
              refine own_go (own_ldCA X31 hx hZ e31 (Ls := #[.val (.ref b), .val (.int (Int32.ofNat n))]) (rest := [(.int (4 : Int32)), (.ref b27), (.ref b27), (.ref b26), (.ref b26)]) ((((((V_b.ext E26).ext E27).other W28 ne_b_b27).other W29 ne_b_b27).other W30 ne_b_b27).other W31 ne_b_b27) (by omega) 4 (by omega) (hb hby d1_179)) ?_
              show own_Go p e below _ T31 (mkF m 180 #[.val (.ref b), .val (.int (Int32.ofNat n))] [(.int (f 4)), (.int (4 : Int32)), (.ref b27), (.ref b27), (.ref b26), (.ref b26)])
              obtain ⟨T32, h32, L32, X32, N32, e32, ⟨sl32, v32, W32⟩, V32, st32⟩ := own_stCA X31 hx hZ e31 V31 (by omega) 4 (by omega) (y := (f 4)) (hc _) (f' := (fun (x : Nat) => if x = 4 then (f 4) else (fun (x : Nat) => if x = 3 then (f 3) else (fun (x : Nat) => if x = 2 then (f 2) else (fun (x : Nat) => if x = 1 then (f 1) else (fun (x : Nat) => if x = 0 then (f 0) else (fun (_ : Nat) => (0 : Int32)) x) x) x) x) x)) (fun _ => rfl) N31 ge_b27 (Ls := #[.val (.ref b), .val (.int (Int32.ofNat n))]) (rest := [(.ref b27), (.ref b26), (.ref b26)]) (hb hby d1_180)
              have old32 := old31.wr W32 ge_b27
              have H32_b26_value := H31_b26_value.other W32 (Or.inl ne_b26_b27)
              have H32_b26_coder := H31_b26_coder.other W32 (Or.inl ne_b26_b27)
              refine own_go st32 ?_
              show own_Go p e below _ T32 (mkF m 181 #[.val (.ref b), .val (.int (Int32.ofNat n))] [(.ref b27), (.ref b26), (.ref b26)])
              obtain ⟨_, T33, L33, X33, ⟨rfl, N33, K33, str33⟩, hS33, hZ, hown, st33⟩ := own_callCW X32 hx hZH (y := (⟨"java/lang/String", "<init>", "([C)V"⟩ : MethodName)) (b := b26) (argsL := [(.ref b27)]) (rest := [(.ref b26)]) (Ls := #[.val (.ref b), .val (.int (Int32.ofNat n))]) rfl hown (own_w hw 8 rfl) (own_w hw 9 rfl) (own_w hw 10 rfl) (own_w hw 7 rfl) (by decide) e32 (rmI1 l Z a0 hw [] b26 b27 5 f cs h32 n0 (own_oldge old32) old32 S_ad S_hi S_lo S_cs hcs hH hcw ((((((A26.ext E27).wr W28).wr W29).wr W30).wr W31).wr W32) H32_b26_value H32_b26_coder ge_b26 (V32.cong (fun i hi => by match i, hi with | 0, _ => rfl | 1, _ => rfl | 2, _ => rfl | 3, _ => rfl | 4, _ => rfl | z + 5, hz => exact absurd hz (by omega))) hc (by decide)) 1 (by decide) (by decide) (by decide) (by decide) (by rw [hml]; rfl) (lenOf pd_17 rfl) rfl (Nat.le_of_eq rfl) (hb hby d1_181)
              have M33 := Fr.app N32 N33
              have old33 := old32.keep K33 (allS ge_b26 all0)
              refine own_go st33 ?_
              show own_Go p e below _ T33 (mkF m 184 #[.val (.ref b), .val (.int (Int32.ofNat n))] [(.ref b26)])
              refine own_retAW X33 hS33 (Nat.le_refl _) hx hlk hret (hb hby d1_184) rfl rfl (by decide) (by decide) ?_
              exact ⟨⟨b26, rfl, by rw [hk5]; exact ⟨str33, old33⟩⟩, M33⟩
            · show own_Go p e below _ T0 (mkF m 141 #[.val (.ref b), .val (.int (Int32.ofNat n))] [(.int (5 : Int32)), (.int (Int32.ofNat n))])
              refine own_go (fun t_ k_ => XS.icmpYes X0.here hx rfl (pc0 := 141) (pc' := 185) rfl (hb hby d1_141) rfl (XT.ii_ne_t (fun q => hk5 ((own_oEq (b := 5) (by omega) (by omega)).mp q))) (by decide) (by decide) k_) ?_
              show own_Go p e below _ T0 (mkF m 185 #[.val (.ref b), .val (.int (Int32.ofNat n))] [])
              have hk6 : n = 6 := by omega
              obtain ⟨T34, h34, b34, X34, e34, E34, g34, A34, D34, st34⟩ := own_newO X0 hx hZ hown (own_w hw 5 rfl) (own_w hw 6 rfl) (own_w hw 7 rfl) e0 (Ls := #[.val (.ref b), .val (.int (Int32.ofNat n))]) (st := []) (hb hby d1_185) (by decide) (by decide)
              have ge_b34 : n0 ≤ b34 := g34 ▸ own_oldge O0
              have old34 := O0.ext E34
              have F34_value : Fld Z h34 b34 "java/lang/String" "value" "[B" .null := D34 (Or.inr (own_w hw 20 rfl)) (ty := (.array .byte)) (by decide)
              have F34_coder : Fld Z h34 b34 "java/lang/String" "coder" "B" (.int (0 : Int32)) := D34 (Or.inr (own_w hw 21 rfl)) (ty := .byte) (by decide)
              refine own_go st34 ?_
              show own_Go p e below _ T34 (mkF m 188 #[.val (.ref b), .val (.int (Int32.ofNat n))] [(.ref b34)])
              refine own_go (fun t_ k_ => XS.dup X34.here hx rfl (hb hby d1_188) rfl rfl k_) ?_
              show own_Go p e below _ T34 (mkF m 189 #[.val (.ref b), .val (.int (Int32.ofNat n))] [(.ref b34), (.ref b34)])
              refine own_go (fun t_ k_ => XS.bipush X34.here hx rfl (hb hby d1_189) k_) ?_
              show own_Go p e below _ T34 (mkF m 191 #[.val (.ref b), .val (.int (Int32.ofNat n))] [(.int (6 : Int32)), (.ref b34), (.ref b34)])
              obtain ⟨T35, h35, b35, X35, e35, E35, g35, V35, st35⟩ := own_newCA X34 hx hZ (own_w hw 0 rfl) e34 (Ls := #[.val (.ref b), .val (.int (Int32.ofNat n))]) (rest := [(.ref b34), (.ref b34)]) (hb hby d1_191) 6 6 (by omega) (by decide) (by decide) (by decide)
              have ge_b35 : n0 ≤ b35 := g35 ▸ own_oldge old34
              have old35 := old34.ext E35
              refine own_go st35 ?_
              show own_Go p e below _ T35 (mkF m 193 #[.val (.ref b), .val (.int (Int32.ofNat n))] [(.ref b35), (.ref b34), (.ref b34)])
              have ne_b_b35 : b ≠ b35 := fun q => absurd V_b.lt (by rw [q, g35]; exact Nat.not_lt.mpr E34.1)
              have ne_b34_b35 : b34 ≠ b35 := own_exaCA (A34.ext E35) V35 (own_w hw 6 rfl)
              refine own_go (fun t_ k_ => XS.dup X35.here hx rfl (hb hby d1_193) rfl rfl k_) ?_
              show own_Go p e below _ T35 (mkF m 194 #[.val (.ref b), .val (.int (Int32.ofNat n))] [(.ref b35), (.ref b35), (.ref b34), (.ref b34)])
              refine own_go (fun t_ k_ => XS.iconst X35.here hx rfl (hb hby d1_194) k_) ?_
              show own_Go p e below _ T35 (mkF m 195 #[.val (.ref b), .val (.int (Int32.ofNat n))] [(.int (0 : Int32)), (.ref b35), (.ref b35), (.ref b34), (.ref b34)])
              refine own_go (fun t_ k_ => XS.aloadN X35.here hx rfl (hb hby d1_195) rfl rfl k_) ?_
              show own_Go p e below _ T35 (mkF m 196 #[.val (.ref b), .val (.int (Int32.ofNat n))] [(.ref b), (.int (0 : Int32)), (.ref b35), (.ref b35), (.ref b34), (.ref b34)])
              refine own_go (fun t_ k_ => XS.iconst X35.here hx rfl (hb hby d1_196) k_) ?_
              show own_Go p e below _ T35 (mkF m 197 #[.val (.ref b), .val (.int (Int32.ofNat n))] [(.int (0 : Int32)), (.ref b), (.int (0 : Int32)), (.ref b35), (.ref b35), (.ref b34), (.ref b34)])
              refine own_go (own_ldCA X35 hx hZ e35 (Ls := #[.val (.ref b), .val (.int (Int32.ofNat n))]) (rest := [(.int (0 : Int32)), (.ref b35), (.ref b35), (.ref b34), (.ref b34)]) ((V_b.ext E34).ext E35) (by omega) 0 (by omega) (hb hby d1_197)) ?_
              show own_Go p e below _ T35 (mkF m 198 #[.val (.ref b), .val (.int (Int32.ofNat n))] [(.int (f 0)), (.int (0 : Int32)), (.ref b35), (.ref b35), (.ref b34), (.ref b34)])
              obtain ⟨T36, h36, L36, X36, N36, e36, ⟨sl36, v36, W36⟩, V36, st36⟩ := own_stCA X35 hx hZ e35 V35 (by omega) 0 (by omega) (y := (f 0)) (hc _) (f' := (fun (x : Nat) => if x = 0 then (f 0) else (fun (_ : Nat) => (0 : Int32)) x)) (fun _ => rfl) N0 ge_b35 (Ls := #[.val (.ref b), .val (.int (Int32.ofNat n))]) (rest := [(.ref b35), (.ref b34), (.ref b34)]) (hb hby d1_198)
              have old36 := old35.wr W36 ge_b35
              have H36_b34_value := (F34_value.ext E35).other W36 (Or.inl ne_b34_b35)
              have H36_b34_coder := (F34_coder.ext E35).other W36 (Or.inl ne_b34_b35)
              refine own_go st36 ?_
              show own_Go p e below _ T36 (mkF m 199 #[.val (.ref b), .val (.int (Int32.ofNat n))] [(.ref b35), (.ref b34), (.ref b34)])
              refine own_go (fun t_ k_ => XS.dup X36.here hx rfl (hb hby d1_199) rfl rfl k_) ?_
              show own_Go p e below _ T36 (mkF m 200 #[.val (.ref b), .val (.int (Int32.ofNat n))] [(.ref b35), (.ref b35), (.ref b34), (.ref b34)])
              refine own_go (fun t_ k_ => XS.iconst X36.here hx rfl (hb hby d1_200) k_) ?_
              show own_Go p e below _ T36 (mkF m 201 #[.val (.ref b), .val (.int (Int32.ofNat n))] [(.int (1 : Int32)), (.ref b35), (.ref b35), (.ref b34), (.ref b34)])
              refine own_go (fun t_ k_ => XS.aloadN X36.here hx rfl (hb hby d1_201) rfl rfl k_) ?_
              show own_Go p e below _ T36 (mkF m 202 #[.val (.ref b), .val (.int (Int32.ofNat n))] [(.ref b), (.int (1 : Int32)), (.ref b35), (.ref b35), (.ref b34), (.ref b34)])
              refine own_go (fun t_ k_ => XS.iconst X36.here hx rfl (hb hby d1_202) k_) ?_
              show own_Go p e below _ T36 (mkF m 203 #[.val (.ref b), .val (.int (Int32.ofNat n))] [(.int (1 : Int32)), (.ref b), (.int (1 : Int32)), (.ref b35), (.ref b35), (.ref b34), (.ref b34)])
              refine own_go (own_ldCA X36 hx hZ e36 (Ls := #[.val (.ref b), .val (.int (Int32.ofNat n))]) (rest := [(.int (1 : Int32)), (.ref b35), (.ref b35), (.ref b34), (.ref b34)]) (((V_b.ext E34).ext E35).other W36 ne_b_b35) (by omega) 1 (by omega) (hb hby d1_203)) ?_
              show own_Go p e below _ T36 (mkF m 204 #[.val (.ref b), .val (.int (Int32.ofNat n))] [(.int (f 1)), (.int (1 : Int32)), (.ref b35), (.ref b35), (.ref b34), (.ref b34)])
              obtain ⟨T37, h37, L37, X37, N37, e37, ⟨sl37, v37, W37⟩, V37, st37⟩ := own_stCA X36 hx hZ e36 V36 (by omega) 1 (by omega) (y := (f 1)) (hc _) (f' := (fun (x : Nat) => if x = 1 then (f 1) else (fun (x : Nat) => if x = 0 then (f 0) else (fun (_ : Nat) => (0 : Int32)) x) x)) (fun _ => rfl) N36 ge_b35 (Ls := #[.val (.ref b), .val (.int (Int32.ofNat n))]) (rest := [(.ref b35), (.ref b34), (.ref b34)]) (hb hby d1_204)
              have old37 := old36.wr W37 ge_b35
              have H37_b34_value := H36_b34_value.other W37 (Or.inl ne_b34_b35)
              have H37_b34_coder := H36_b34_coder.other W37 (Or.inl ne_b34_b35)
              refine own_go st37 ?_
              show own_Go p e below _ T37 (mkF m 205 #[.val (.ref b), .val (.int (Int32.ofNat n))] [(.ref b35), (.ref b34), (.ref b34)])
              refine own_go (fun t_ k_ => XS.dup X37.here hx rfl (hb hby d1_205) rfl rfl k_) ?_
              show own_Go p e below _ T37 (mkF m 206 #[.val (.ref b), .val (.int (Int32.ofNat n))] [(.ref b35), (.ref b35), (.ref b34), (.ref b34)])
              refine own_go (fun t_ k_ => XS.iconst X37.here hx rfl (hb hby d1_206) k_) ?_
              show own_Go p e below _ T37 (mkF m 207 #[.val (.ref b), .val (.int (Int32.ofNat n))] [(.int (2 : Int32)), (.ref b35), (.ref b35), (.ref b34), (.ref b34)])
              refine own_go (fun t_ k_ => XS.aloadN X37.here hx rfl (hb hby d1_207) rfl rfl k_) ?_
              show own_Go p e below _ T37 (mkF m 208 #[.val (.ref b), .val (.int (Int32.ofNat n))] [(.ref b), (.int (2 : Int32)), (.ref b35), (.ref b35), (.ref b34), (.ref b34)])
              refine own_go (fun t_ k_ => XS.iconst X37.here hx rfl (hb hby d1_208) k_) ?_
              show own_Go p e below _ T37 (mkF m 209 #[.val (.ref b), .val (.int (Int32.ofNat n))] [(.int (2 : Int32)), (.ref b), (.int (2 : Int32)), (.ref b35), (.ref b35), (.ref b34), (.ref b34)])
              refine own_go (own_ldCA X37 hx hZ e37 (Ls := #[.val (.ref b), .val (.int (Int32.ofNat n))]) (rest := [(.int (2 : Int32)), (.ref b35), (.ref b35), (.ref b34), (.ref b34)]) ((((V_b.ext E34).ext E35).other W36 ne_b_b35).other W37 ne_b_b35) (by omega) 2 (by omega) (hb hby d1_209)) ?_
              show own_Go p e below _ T37 (mkF m 210 #[.val (.ref b), .val (.int (Int32.ofNat n))] [(.int (f 2)), (.int (2 : Int32)), (.ref b35), (.ref b35), (.ref b34), (.ref b34)])
              obtain ⟨T38, h38, L38, X38, N38, e38, ⟨sl38, v38, W38⟩, V38, st38⟩ := own_stCA X37 hx hZ e37 V37 (by omega) 2 (by omega) (y := (f 2)) (hc _) (f' := (fun (x : Nat) => if x = 2 then (f 2) else (fun (x : Nat) => if x = 1 then (f 1) else (fun (x : Nat) => if x = 0 then (f 0) else (fun (_ : Nat) => (0 : Int32)) x) x) x)) (fun _ => rfl) N37 ge_b35 (Ls := #[.val (.ref b), .val (.int (Int32.ofNat n))]) (rest := [(.ref b35), (.ref b34), (.ref b34)]) (hb hby d1_210)
              have old38 := old37.wr W38 ge_b35
              have H38_b34_value := H37_b34_value.other W38 (Or.inl ne_b34_b35)
              have H38_b34_coder := H37_b34_coder.other W38 (Or.inl ne_b34_b35)
              refine own_go st38 ?_
              show own_Go p e below _ T38 (mkF m 211 #[.val (.ref b), .val (.int (Int32.ofNat n))] [(.ref b35), (.ref b34), (.ref b34)])
              refine own_go (fun t_ k_ => XS.dup X38.here hx rfl (hb hby d1_211) rfl rfl k_) ?_
              show own_Go p e below _ T38 (mkF m 212 #[.val (.ref b), .val (.int (Int32.ofNat n))] [(.ref b35), (.ref b35), (.ref b34), (.ref b34)])
              refine own_go (fun t_ k_ => XS.iconst X38.here hx rfl (hb hby d1_212) k_) ?_
              show own_Go p e below _ T38 (mkF m 213 #[.val (.ref b), .val (.int (Int32.ofNat n))] [(.int (3 : Int32)), (.ref b35), (.ref b35), (.ref b34), (.ref b34)])
              refine own_go (fun t_ k_ => XS.aloadN X38.here hx rfl (hb hby d1_213) rfl rfl k_) ?_
              show own_Go p e below _ T38 (mkF m 214 #[.val (.ref b), .val (.int (Int32.ofNat n))] [(.ref b), (.int (3 : Int32)), (.ref b35), (.ref b35), (.ref b34), (.ref b34)])
              refine own_go (fun t_ k_ => XS.iconst X38.here hx rfl (hb hby d1_214) k_) ?_
              show own_Go p e below _ T38 (mkF m 215 #[.val (.ref b), .val (.int (Int32.ofNat n))] [(.int (3 : Int32)), (.ref b), (.int (3 : Int32)), (.ref b35), (.ref b35), (.ref b34), (.ref b34)])
              refine own_go (own_ldCA X38 hx hZ e38 (Ls := #[.val (.ref b), .val (.int (Int32.ofNat n))]) (rest := [(.int (3 : Int32)), (.ref b35), (.ref b35), (.ref b34), (.ref b34)]) (((((V_b.ext E34).ext E35).other W36 ne_b_b35).other W37 ne_b_b35).other W38 ne_b_b35) (by omega) 3 (by omega) (hb hby d1_215)) ?_
              show own_Go p e below _ T38 (mkF m 216 #[.val (.ref b), .val (.int (Int32.ofNat n))] [(.int (f 3)), (.int (3 : Int32)), (.ref b35), (.ref b35), (.ref b34), (.ref b34)])
              obtain ⟨T39, h39, L39, X39, N39, e39, ⟨sl39, v39, W39⟩, V39, st39⟩ := own_stCA X38 hx hZ e38 V38 (by omega) 3 (by omega) (y := (f 3)) (hc _) (f' := (fun (x : Nat) => if x = 3 then (f 3) else (fun (x : Nat) => if x = 2 then (f 2) else (fun (x : Nat) => if x = 1 then (f 1) else (fun (x : Nat) => if x = 0 then (f 0) else (fun (_ : Nat) => (0 : Int32)) x) x) x) x)) (fun _ => rfl) N38 ge_b35 (Ls := #[.val (.ref b), .val (.int (Int32.ofNat n))]) (rest := [(.ref b35), (.ref b34), (.ref b34)]) (hb hby d1_216)
              have old39 := old38.wr W39 ge_b35
              have H39_b34_value := H38_b34_value.other W39 (Or.inl ne_b34_b35)
              have H39_b34_coder := H38_b34_coder.other W39 (Or.inl ne_b34_b35)
              refine own_go st39 ?_
              show own_Go p e below _ T39 (mkF m 217 #[.val (.ref b), .val (.int (Int32.ofNat n))] [(.ref b35), (.ref b34), (.ref b34)])
              refine own_go (fun t_ k_ => XS.dup X39.here hx rfl (hb hby d1_217) rfl rfl k_) ?_
              show own_Go p e below _ T39 (mkF m 218 #[.val (.ref b), .val (.int (Int32.ofNat n))] [(.ref b35), (.ref b35), (.ref b34), (.ref b34)])
              refine own_go (fun t_ k_ => XS.iconst X39.here hx rfl (hb hby d1_218) k_) ?_
              show own_Go p e below _ T39 (mkF m 219 #[.val (.ref b), .val (.int (Int32.ofNat n))] [(.int (4 : Int32)), (.ref b35), (.ref b35), (.ref b34), (.ref b34)])
              refine own_go (fun t_ k_ => XS.aloadN X39.here hx rfl (hb hby d1_219) rfl rfl k_) ?_
              show own_Go p e below _ T39 (mkF m 220 #[.val (.ref b), .val (.int (Int32.ofNat n))] [(.ref b), (.int (4 : Int32)), (.ref b35), (.ref b35), (.ref b34), (.ref b34)])
              refine own_go (fun t_ k_ => XS.iconst X39.here hx rfl (hb hby d1_220) k_) ?_
              show own_Go p e below _ T39 (mkF m 221 #[.val (.ref b), .val (.int (Int32.ofNat n))] [(.int (4 : Int32)), (.ref b), (.int (4 : Int32)), (.ref b35), (.ref b35), (.ref b34), (.ref b34)])
              refine own_go (own_ldCA X39 hx hZ e39 (Ls := #[.val (.ref b), .val (.int (Int32.ofNat n))]) (rest := [(.int (4 : Int32)), (.ref b35), (.ref b35), (.ref b34), (.ref b34)]) ((((((V_b.ext E34).ext E35).other W36 ne_b_b35).other W37 ne_b_b35).other W38 ne_b_b35).other W39 ne_b_b35) (by omega) 4 (by omega) (hb hby d1_221)) ?_
              show own_Go p e below _ T39 (mkF m 222 #[.val (.ref b), .val (.int (Int32.ofNat n))] [(.int (f 4)), (.int (4 : Int32)), (.ref b35), (.ref b35), (.ref b34), (.ref b34)])
              obtain ⟨T40, h40, L40, X40, N40, e40, ⟨sl40, v40, W40⟩, V40, st40⟩ := own_stCA X39 hx hZ e39 V39 (by omega) 4 (by omega) (y := (f 4)) (hc _) (f' := (fun (x : Nat) => if x = 4 then (f 4) else (fun (x : Nat) => if x = 3 then (f 3) else (fun (x : Nat) => if x = 2 then (f 2) else (fun (x : Nat) => if x = 1 then (f 1) else (fun (x : Nat) => if x = 0 then (f 0) else (fun (_ : Nat) => (0 : Int32)) x) x) x) x) x)) (fun _ => rfl) N39 ge_b35 (Ls := #[.val (.ref b), .val (.int (Int32.ofNat n))]) (rest := [(.ref b35), (.ref b34), (.ref b34)]) (hb hby d1_222)
              have old40 := old39.wr W40 ge_b35
              have H40_b34_value := H39_b34_value.other W40 (Or.inl ne_b34_b35)
              have H40_b34_coder := H39_b34_coder.other W40 (Or.inl ne_b34_b35)
              refine own_go st40 ?_
              show own_Go p e below _ T40 (mkF m 223 #[.val (.ref b), .val (.int (Int32.ofNat n))] [(.ref b35), (.ref b34), (.ref b34)])
              refine own_go (fun t_ k_ => XS.dup X40.here hx rfl (hb hby d1_223) rfl rfl k_) ?_
              show own_Go p e below _ T40 (mkF m 224 #[.val (.ref b), .val (.int (Int32.ofNat n))] [(.ref b35), (.ref b35), (.ref b34), (.ref b34)])
              refine own_go (fun t_ k_ => XS.iconst X40.here hx rfl (hb hby d1_224) k_) ?_
              show own_Go p e below _ T40 (mkF m 225 #[.val (.ref b), .val (.int (Int32.ofNat n))] [(.int (5 : Int32)), (.ref b35), (.ref b35), (.ref b34), (.ref b34)])
              refine own_go (fun t_ k_ => XS.aloadN X40.here hx rfl (hb hby d1_225) rfl rfl k_) ?_
              show own_Go p e below _ T40 (mkF m 226 #[.val (.ref b), .val (.int (Int32.ofNat n))] [(.ref b), (.int (5 : Int32)), (.ref b35), (.ref b35), (.ref b34), (.ref b34)])
              refine own_go (fun t_ k_ => XS.iconst X40.here hx rfl (hb hby d1_226) k_) ?_
              show own_Go p e below _ T40 (mkF m 227 #[.val (.ref b), .val (.int (Int32.ofNat n))] [(.int (5 : Int32)), (.ref b), (.int (5 : Int32)), (.ref b35), (.ref b35), (.ref b34), (.ref b34)])
              refine own_go (own_ldCA X40 hx hZ e40 (Ls := #[.val (.ref b), .val (.int (Int32.ofNat n))]) (rest := [(.int (5 : Int32)), (.ref b35), (.ref b35), (.ref b34), (.ref b34)]) (((((((V_b.ext E34).ext E35).other W36 ne_b_b35).other W37 ne_b_b35).other W38 ne_b_b35).other W39 ne_b_b35).other W40 ne_b_b35) (by omega) 5 (by omega) (hb hby d1_227)) ?_
              show own_Go p e below _ T40 (mkF m 228 #[.val (.ref b), .val (.int (Int32.ofNat n))] [(.int (f 5)), (.int (5 : Int32)), (.ref b35), (.ref b35), (.ref b34), (.ref b34)])
              obtain ⟨T41, h41, L41, X41, N41, e41, ⟨sl41, v41, W41⟩, V41, st41⟩ := own_stCA X40 hx hZ e40 V40 (by omega) 5 (by omega) (y := (f 5)) (hc _) (f' := (fun (x : Nat) => if x = 5 then (f 5) else (fun (x : Nat) => if x = 4 then (f 4) else (fun (x : Nat) => if x = 3 then (f 3) else (fun (x : Nat) => if x = 2 then (f 2) else (fun (x : Nat) => if x = 1 then (f 1) else (fun (x : Nat) => if x = 0 then (f 0) else (fun (_ : Nat) => (0 : Int32)) x) x) x) x) x) x)) (fun _ => rfl) N40 ge_b35 (Ls := #[.val (.ref b), .val (.int (Int32.ofNat n))]) (rest := [(.ref b35), (.ref b34), (.ref b34)]) (hb hby d1_228)
              have old41 := old40.wr W41 ge_b35
              have H41_b34_value := H40_b34_value.other W41 (Or.inl ne_b34_b35)
              have H41_b34_coder := H40_b34_coder.other W41 (Or.inl ne_b34_b35)
              refine own_go st41 ?_
              show own_Go p e below _ T41 (mkF m 229 #[.val (.ref b), .val (.int (Int32.ofNat n))] [(.ref b35), (.ref b34), (.ref b34)])
              obtain ⟨_, T42, L42, X42, ⟨rfl, N42, K42, str42⟩, hS42, hZ, hown, st42⟩ := own_callCW X41 hx hZH (y := (⟨"java/lang/String", "<init>", "([C)V"⟩ : MethodName)) (b := b34) (argsL := [(.ref b35)]) (rest := [(.ref b34)]) (Ls := #[.val (.ref b), .val (.int (Int32.ofNat n))]) rfl hown (own_w hw 8 rfl) (own_w hw 9 rfl) (own_w hw 10 rfl) (own_w hw 7 rfl) (by decide) e41 (rmI1 l Z a0 hw [] b34 b35 6 f cs h41 n0 (own_oldge old41) old41 S_ad S_hi S_lo S_cs hcs hH hcw (((((((A34.ext E35).wr W36).wr W37).wr W38).wr W39).wr W40).wr W41) H41_b34_value H41_b34_coder ge_b34 (V41.cong (fun i hi => by match i, hi with | 0, _ => rfl | 1, _ => rfl | 2, _ => rfl | 3, _ => rfl | 4, _ => rfl | 5, _ => rfl | z + 6, hz => exact absurd hz (by omega))) hc (by decide)) 1 (by decide) (by decide) (by decide) (by decide) (by rw [hml]; rfl) (lenOf pd_17 rfl) rfl (Nat.le_of_eq rfl) (hb hby d1_229)
              have M42 := Fr.app N41 N42
              have old42 := old41.keep K42 (allS ge_b34 all0)
              refine own_go st42 ?_
              show own_Go p e below _ T42 (mkF m 232 #[.val (.ref b), .val (.int (Int32.ofNat n))] [(.ref b34)])
              refine own_retAW X42 hS42 (Nat.le_refl _) hx hlk hret (hb hby d1_232) rfl rfl (by decide) (by decide) ?_
              exact ⟨⟨b34, rfl, by rw [hk6]; exact ⟨str42, old42⟩⟩, M42⟩
set_option maxRecDepth 65536 in
set_option maxHeartbeats 40000000 in
theorem rmPr (l : Launch) (Z : State) (a0 : Array Value) (hw : ∀ d ∈ tables_1, d.before a0 Z = true) (ws : List Jvm.Cond) (n : Nat) (h0 : Heap) (n0 : Nat) (Z0 : n0 ≤ h0.size) (hn : n ≤ 6) :
    own_Met l Z (⟨"jdk/internal/util/Preconditions", "checkFromToIndex", "(IIILjava/util/function/BiFunction;)I"⟩ : MethodName) jdk_41_method_12_code 4 (some .int) ws ({ frames := 0, cells := 0, slots := 0, locals := 0 } : Room) #[(.int (0 : Int32)), (.int (Int32.ofNat n)), (.int (Int32.ofNat n)), .null] h0 (fun v h L => v = some (.int 0) ∧ Fr n0 L ∧ h = h0) := by
  refine own_body (by first | exact plainFor_of_name pn_jdk_internal_util_Preconditions | decide +kernel) ?_
  intro p e s m below meth c T0 X0 hx hby hml hret hlk hZ hown hnm e0
  have hown : s.vm.findClass "jdk/internal/util/Preconditions" = some m.cls := hown
  have hnm : meth.name = "checkFromToIndex" := hnm
  have N0 := Fr.nil n0
  rw [ef_11 m (0 : Int32) (Int32.ofNat n) (Int32.ofNat n)]
  show own_Go p e below _ T0 (mkF m 0 #[.val (.int (0 : Int32)), .val (.int (Int32.ofNat n)), .val (.int (Int32.ofNat n)), .val .null] [])
  refine own_go (fun t_ k_ => XS.iloadN X0.here hx rfl (hb hby d11_0) rfl k_) ?_
  show own_Go p e below _ T0 (mkF m 1 #[.val (.int (0 : Int32)), .val (.int (Int32.ofNat n)), .val (.int (Int32.ofNat n)), .val .null] [(.int (0 : Int32))])
  refine own_go (fun t_ k_ => XS.ifNo X0.here hx rfl (hb hby d11_1) rfl (XT.i0_lt_f (by decide)) k_) ?_
  show own_Go p e below _ T0 (mkF m 4 #[.val (.int (0 : Int32)), .val (.int (Int32.ofNat n)), .val (.int (Int32.ofNat n)), .val .null] [])
  refine own_go (fun t_ k_ => XS.iloadN X0.here hx rfl (hb hby d11_4) rfl k_) ?_
  show own_Go p e below _ T0 (mkF m 5 #[.val (.int (0 : Int32)), .val (.int (Int32.ofNat n)), .val (.int (Int32.ofNat n)), .val .null] [(.int (0 : Int32))])
  refine own_go (fun t_ k_ => XS.iloadN X0.here hx rfl (hb hby d11_5) rfl k_) ?_
  show own_Go p e below _ T0 (mkF m 6 #[.val (.int (0 : Int32)), .val (.int (Int32.ofNat n)), .val (.int (Int32.ofNat n)), .val .null] [(.int (Int32.ofNat n)), (.int (0 : Int32))])
  refine own_go (fun t_ k_ => XS.icmpNo X0.here hx rfl (hb hby d11_6) rfl (XT.ii_gt_f (own_oNeg (by omega))) k_) ?_
  show own_Go p e below _ T0 (mkF m 9 #[.val (.int (0 : Int32)), .val (.int (Int32.ofNat n)), .val (.int (Int32.ofNat n)), .val .null] [])
  refine own_go (fun t_ k_ => XS.iloadN X0.here hx rfl (hb hby d11_9) rfl k_) ?_
  show own_Go p e below _ T0 (mkF m 10 #[.val (.int (0 : Int32)), .val (.int (Int32.ofNat n)), .val (.int (Int32.ofNat n)), .val .null] [(.int (Int32.ofNat n))])
  refine own_go (fun t_ k_ => XS.iloadN X0.here hx rfl (hb hby d11_10) rfl k_) ?_
  show own_Go p e below _ T0 (mkF m 11 #[.val (.int (0 : Int32)), .val (.int (Int32.ofNat n)), .val (.int (Int32.ofNat n)), .val .null] [(.int (Int32.ofNat n)), (.int (Int32.ofNat n))])
  refine own_go (fun t_ k_ => XS.icmpYes X0.here hx rfl (pc0 := 11) (pc' := 22) rfl (hb hby d11_11) rfl (XT.ii_le_t Int32.lt_irrefl) (by decide) (by decide) k_) ?_
  show own_Go p e below _ T0 (mkF m 22 #[.val (.int (0 : Int32)), .val (.int (Int32.ofNat n)), .val (.int (Int32.ofNat n)), .val .null] [])
  refine own_go (fun t_ k_ => XS.iloadN X0.here hx rfl (hb hby d11_22) rfl k_) ?_
  show own_Go p e below _ T0 (mkF m 23 #[.val (.int (0 : Int32)), .val (.int (Int32.ofNat n)), .val (.int (Int32.ofNat n)), .val .null] [(.int (0 : Int32))])
  refine own_retI X0 hx hlk hret (hb hby d11_23) (by decide) (by decide) ?_
  exact ⟨rfl, N0, e0⟩
set_option maxRecDepth 65536 in
set_option maxHeartbeats 40000000 in
theorem rmOb (l : Launch) (Z : State) (a0 : Array Value) (hw : ∀ d ∈ tables_1, d.before a0 Z = true) (ws : List Jvm.Cond) (n : Nat) (h0 : Heap) (n0 : Nat) (Z0 : n0 ≤ h0.size) (hn : n ≤ 6) :
    own_Met l Z (⟨"java/util/Objects", "checkFromToIndex", "(III)I"⟩ : MethodName) jdk_31_method_18_code 3 (some .int) ws ({ frames := 1, cells := 0, slots := 0, locals := 15 } : Room) #[(.int (0 : Int32)), (.int (Int32.ofNat n)), (.int (Int32.ofNat n))] h0 (fun v h L => v = some (.int 0) ∧ Fr n0 L ∧ h = h0) := by
  refine own_body (by first | exact plainFor_of_name pn_java_util_Objects | decide +kernel) ?_
  intro p e s m below meth c T0 X0 hx hby hml hret hlk hZ hown hnm e0
  have hown : s.vm.findClass "java/util/Objects" = some m.cls := hown
  have hnm : meth.name = "checkFromToIndex" := hnm
  have N0 := Fr.nil n0
  rw [ef_10 m (0 : Int32) (Int32.ofNat n) (Int32.ofNat n)]
  show own_Go p e below _ T0 (mkF m 0 #[.val (.int (0 : Int32)), .val (.int (Int32.ofNat n)), .val (.int (Int32.ofNat n))] [])
  refine own_go (fun t_ k_ => XS.iloadN X0.here hx rfl (hb hby d10_0) rfl k_) ?_
  show own_Go p e below _ T0 (mkF m 1 #[.val (.int (0 : Int32)), .val (.int (Int32.ofNat n)), .val (.int (Int32.ofNat n))] [(.int (0 : Int32))])
  refine own_go (fun t_ k_ => XS.iloadN X0.here hx rfl (hb hby d10_1) rfl k_) ?_
  show own_Go p e below _ T0 (mkF m 2 #[.val (.int (0 : Int32)), .val (.int (Int32.ofNat n)), .val (.int (Int32.ofNat n))] [(.int (Int32.ofNat n)), (.int (0 : Int32))])
  refine own_go (fun t_ k_ => XS.iloadN X0.here hx rfl (hb hby d10_2) rfl k_) ?_
  show own_Go p e below _ T0 (mkF m 3 #[.val (.int (0 : Int32)), .val (.int (Int32.ofNat n)), .val (.int (Int32.ofNat n))] [(.int (Int32.ofNat n)), (.int (Int32.ofNat n)), (.int (0 : Int32))])
  refine own_go (fun t_ k_ => XS.aconstNull X0.here hx rfl (hb hby d10_3) k_) ?_
  show own_Go p e below _ T0 (mkF m 4 #[.val (.int (0 : Int32)), .val (.int (Int32.ofNat n)), .val (.int (Int32.ofNat n))] [.null, (.int (Int32.ofNat n)), (.int (Int32.ofNat n)), (.int (0 : Int32))])
  obtain ⟨_, T1, L1, X1, ⟨rfl, N1, e1⟩, st1⟩ := own_callS X0 hx hZ (y := (⟨"jdk/internal/util/Preconditions", "checkFromToIndex", "(IIILjava/util/function/BiFunction;)I"⟩ : MethodName)) (argsL := [(.int (0 : Int32)), (.int (Int32.ofNat n)), (.int (Int32.ofNat n)), .null]) (rest := []) (Ls := #[.val (.int (0 : Int32)), .val (.int (Int32.ofNat n)), .val (.int (Int32.ofNat n))]) hown (own_w hw 56 rfl) (own_w hw 57 rfl) (own_w hw 58 rfl) (own_w hw 59 rfl) (by decide) e0 (rmPr l Z a0 hw [] n h0 n0 Z0 hn) 0 (by decide) (by decide) (by decide) (by decide) (by rw [hml]; rfl) (lenOf pd_10 rfl) rfl (Nat.le_of_eq rfl) (hb hby d10_4)
  have M1 := Fr.app N0 N1
  refine own_go st1 ?_
  show own_Go p e below _ T1 (mkF m 7 #[.val (.int (0 : Int32)), .val (.int (Int32.ofNat n)), .val (.int (Int32.ofNat n))] [(.int (0 : Int32))])
  refine own_retI X1 hx hlk hret (hb hby d10_7) (by decide) (by decide) ?_
  exact ⟨rfl, M1, e1⟩
set_option maxRecDepth 65536 in
set_option maxHeartbeats 40000000 in
theorem rmC4 (l : Launch) (Z : State) (a0 : Array Value) (hw : ∀ d ∈ tables_1, d.before a0 Z = true) (ws : List Jvm.Cond) (vb : Addr) (n K : Nat) (f : Nat → Int32) (h0 : Heap) (n0 : Nat) (Z0 : n0 ≤ h0.size) (O0 : Old Z n0 h0) (S_ad : Sta Z Z.heap "java/lang/StringUTF16" "$assertionsDisabled" "Z" (.int (1 : Int32))) (S_hi : Sta Z Z.heap "java/lang/StringUTF16" "HI_BYTE_SHIFT" "I" (.int (0 : Int32))) (S_lo : Sta Z Z.heap "java/lang/StringUTF16" "LO_BYTE_SHIFT" "I" (.int (8 : Int32))) (V_v : own_BA Z h0 vb (2 * n) (own_by f)) (hc : ∀ x, own_isC (f x)) (hn : n ≤ 6) (hn0 : 0 < n) (hrs0 : own_rs f n K 0) :
    own_Met l Z (⟨"java/lang/StringUTF16", "codePointCount", "([BIIZ)I"⟩ : MethodName) jdk_52_method_11_code 6 (some .int) ws ({ frames := 1, cells := 0, slots := 0, locals := 13 } : Room) #[(.ref vb), (.int (0 : Int32)), (.int (Int32.ofNat n)), (.int (0 : Int32))] h0 (fun v h L => v = some (.int (Int32.ofNat K)) ∧ Fr n0 L ∧ h = h0) := by
  refine own_body (by first | exact plainFor_of_name pn_java_lang_StringUTF16 | decide +kernel) ?_
  intro p e s m below meth c T0 X0 hx hby hml hret hlk hZ hown hnm e0
  have hown : s.vm.findClass "java/lang/StringUTF16" = some m.cls := hown
  have hnm : meth.name = "codePointCount" := hnm
  have N0 := Fr.nil n0
  rw [ef_23 m vb (0 : Int32) (Int32.ofNat n) (0 : Int32)]
  show own_Go p e below _ T0 (mkF m 0 #[.val (.ref vb), .val (.int (0 : Int32)), .val (.int (Int32.ofNat n)), .val (.int (0 : Int32)), .unset, .unset] [])
  obtain ⟨T1, X1, e1, st1⟩ := getS2 X0 hx hZ hown (host := "") (Or.inl (own_w hw 94 rfl)) Via.refl e0 (S_ad.ext O0.2) (g := (mkF m 0 #[.val (.ref vb), .val (.int (0 : Int32)), .val (.int (Int32.ofNat n)), .val (.int (0 : Int32)), .unset, .unset] [])) rfl (hb hby d23_0)
  refine own_go st1 ?_
  show own_Go p e below _ T1 (mkF m 3 #[.val (.ref vb), .val (.int (0 : Int32)), .val (.int (Int32.ofNat n)), .val (.int (0 : Int32)), .unset, .unset] [(.int (1 : Int32))])
  refine own_go (fun t_ k_ => XS.ifYes X1.here hx rfl (pc0 := 3) (pc' := 19) rfl (hb hby d23_3) rfl (XT.i0_ne_t (by decide)) (by decide) (by decide) k_) ?_
  show own_Go p e below _ T1 (mkF m 19 #[.val (.ref vb), .val (.int (0 : Int32)), .val (.int (Int32.ofNat n)), .val (.int (0 : Int32)), .unset, .unset] [])
  refine own_go (fun t_ k_ => XS.iloadN X1.here hx rfl (hb hby d23_19) rfl k_) ?_
  show own_Go p e below _ T1 (mkF m 20 #[.val (.ref vb), .val (.int (0 : Int32)), .val (.int (Int32.ofNat n)), .val (.int (0 : Int32)), .unset, .unset] [(.int (Int32.ofNat n))])
  refine own_go (fun t_ k_ => XS.iloadN X1.here hx rfl (hb hby d23_20) rfl k_) ?_
  show own_Go p e below _ T1 (mkF m 21 #[.val (.ref vb), .val (.int (0 : Int32)), .val (.int (Int32.ofNat n)), .val (.int (0 : Int32)), .unset, .unset] [(.int (0 : Int32)), (.int (Int32.ofNat n))])
  refine own_go (fun t_ k_ => XS.isub X1.here hx rfl (hb hby d23_21) rfl k_) ?_
  show own_Go p e below _ T1 (mkF m 22 #[.val (.ref vb), .val (.int (0 : Int32)), .val (.int (Int32.ofNat n)), .val (.int (0 : Int32)), .unset, .unset] [(.int ((Int32.ofNat n) - (0 : Int32)))])
  rw [show ((Int32.ofNat n) - (0 : Int32)) = (Int32.ofNat (n - 0)) from own_oSub (a := n) (b := 0) (by omega) (by omega)]
  show own_Go p e below _ T1 (mkF m 22 #[.val (.ref vb), .val (.int (0 : Int32)), .val (.int (Int32.ofNat n)), .val (.int (0 : Int32)), .unset, .unset] [(.int (Int32.ofNat (n - 0)))])
  refine own_go (fun t_ k_ => XS.istore X1.here hx rfl (hb hby d23_22) rfl (l' := #[.val (.ref vb), .val (.int (0 : Int32)), .val (.int (Int32.ofNat n)), .val (.int (0 : Int32)), .val (.int (Int32.ofNat (n - 0))), .unset]) rfl k_) ?_
  show own_Go p e below _ T1 (mkF m 24 #[.val (.ref vb), .val (.int (0 : Int32)), .val (.int (Int32.ofNat n)), .val (.int (0 : Int32)), .val (.int (Int32.ofNat (n - 0))), .unset] [])
  refine own_go (fun t_ k_ => XS.iloadN X1.here hx rfl (hb hby d23_24) rfl k_) ?_
  show own_Go p e below _ T1 (mkF m 25 #[.val (.ref vb), .val (.int (0 : Int32)), .val (.int (Int32.ofNat n)), .val (.int (0 : Int32)), .val (.int (Int32.ofNat (n - 0))), .unset] [(.int (0 : Int32))])
  refine own_go (fun t_ k_ => XS.istore X1.here hx rfl (hb hby d23_25) rfl (l' := #[.val (.ref vb), .val (.int (0 : Int32)), .val (.int (Int32.ofNat n)), .val (.int (0 : Int32)), .val (.int (Int32.ofNat (n - 0))), .val (.int (0 : Int32))]) rfl k_) ?_
  show own_Go p e below _ T1 (mkF m 27 #[.val (.ref vb), .val (.int (0 : Int32)), .val (.int (Int32.ofNat n)), .val (.int (0 : Int32)), .val (.int (Int32.ofNat (n - 0))), .val (.int (0 : Int32))] [])
  refine own_go (fun t_ k_ => XS.iloadN X1.here hx rfl (hb hby d23_27) rfl k_) ?_
  show own_Go p e below _ T1 (mkF m 28 #[.val (.ref vb), .val (.int (0 : Int32)), .val (.int (Int32.ofNat n)), .val (.int (0 : Int32)), .val (.int (Int32.ofNat (n - 0))), .val (.int (0 : Int32))] [(.int (0 : Int32))])
  refine own_go (fun t_ k_ => XS.ifYes X1.here hx rfl (pc0 := 28) (pc' := 44) rfl (hb hby d23_28) rfl (XT.i0_eq_t (by decide)) (by decide) (by decide) k_) ?_
  show own_Go p e below _ T1 (mkF m 44 #[.val (.ref vb), .val (.int (0 : Int32)), .val (.int (Int32.ofNat n)), .val (.int (0 : Int32)), .val (.int (Int32.ofNat (n - 0))), .val (.int (0 : Int32))] [])
  have lp1 : ∀ (kk : Nat) (i : Nat) (c1 : Nat) (r : Nat) (Ty : State) (Ly : List Loc) (Xy : Stand p l e ({ frames := 1, cells := 0, slots := 0, locals := 13 } : Room) s m #[(.ref vb), (.int (0 : Int32)), (.int (Int32.ofNat n)), (.int (0 : Int32))] below meth c Ty Ly 0 0) (Ny : Fr n0 Ly) (ey : Ty.heap = h0) (g0 : n - i ≤ kk) (hrs : own_rs f n r i) (hcr : c1 + r = K + (n - i)) (hin : i ≤ n) (hc6 : c1 ≤ 6), own_Go p e below (own_K (fun v h L => v = some (.int (Int32.ofNat K)) ∧ Fr n0 L ∧ h = h0) s ({ frames := 1, cells := 0, slots := 0, locals := 13 } : Room).cells ({ frames := 1, cells := 0, slots := 0, locals := 13 } : Room).slots) Ty (mkF m 44 #[.val (.ref vb), .val (.int (0 : Int32)), .val (.int (Int32.ofNat n)), .val (.int (0 : Int32)), .val (.int (Int32.ofNat c1)), .val (.int (Int32.ofNat i))] []) := by
    intro kk
    induction kk with
    | zero =>
      intro i c1 r Ty Ly Xy Ny ey g0 hrs hcr hin hc6
      show own_Go p e below _ Ty (mkF m 44 #[.val (.ref vb), .val (.int (0 : Int32)), .val (.int (Int32.ofNat n)), .val (.int (0 : Int32)), .val (.int (Int32.ofNat c1)), .val (.int (Int32.ofNat i))] [])
      refine own_go (fun t_ k_ => XS.iload Xy.here hx rfl (hb hby d23_44) rfl k_) ?_
      show own_Go p e below _ Ty (mkF m 46 #[.val (.ref vb), .val (.int (0 : Int32)), .val (.int (Int32.ofNat n)), .val (.int (0 : Int32)), .val (.int (Int32.ofNat c1)), .val (.int (Int32.ofNat i))] [(.int (Int32.ofNat i))])
      refine own_go (fun t_ k_ => XS.iloadN Xy.here hx rfl (hb hby d23_46) rfl k_) ?_
      show own_Go p e below _ Ty (mkF m 47 #[.val (.ref vb), .val (.int (0 : Int32)), .val (.int (Int32.ofNat n)), .val (.int (0 : Int32)), .val (.int (Int32.ofNat c1)), .val (.int (Int32.ofNat i))] [(.int (Int32.ofNat n)), (.int (Int32.ofNat i))])
      refine own_go (fun t_ k_ => XS.iconst Xy.here hx rfl (hb hby d23_47) k_) ?_
      show own_Go p e below _ Ty (mkF m 48 #[.val (.ref vb), .val (.int (0 : Int32)), .val (.int (Int32.ofNat n)), .val (.int (0 : Int32)), .val (.int (Int32.ofNat c1)), .val (.int (Int32.ofNat i))] [(.int (1 : Int32)), (.int (Int32.ofNat n)), (.int (Int32.ofNat i))])
      refine own_go (fun t_ k_ => XS.isub Xy.here hx rfl (hb hby d23_48) rfl k_) ?_
      show own_Go p e below _ Ty (mkF m 49 #[.val (.ref vb), .val (.int (0 : Int32)), .val (.int (Int32.ofNat n)), .val (.int (0 : Int32)), .val (.int (Int32.ofNat c1)), .val (.int (Int32.ofNat i))] [(.int ((Int32.ofNat n) - (1 : Int32))), (.int (Int32.ofNat i))])
      rw [show ((Int32.ofNat n) - (1 : Int32)) = (Int32.ofNat (n - 1)) from own_oSub (a := n) (b := 1) (by omega) (by omega)]
      show own_Go p e below _ Ty (mkF m 49 #[.val (.ref vb), .val (.int (0 : Int32)), .val (.int (Int32.ofNat n)), .val (.int (0 : Int32)), .val (.int (Int32.ofNat c1)), .val (.int (Int32.ofNat i))] [(.int (Int32.ofNat (n - 1))), (.int (Int32.ofNat i))])
      refine own_go (fun t_ k_ => XS.icmpYes Xy.here hx rfl (pc0 := 49) (pc' := 88) rfl (hb hby d23_49) rfl (XT.ii_ge_t (fun z => by have := (own_oLt (by omega) (by omega)).mp z; omega)) (by decide) (by decide) k_) ?_
      show own_Go p e below _ Ty (mkF m 88 #[.val (.ref vb), .val (.int (0 : Int32)), .val (.int (Int32.ofNat n)), .val (.int (0 : Int32)), .val (.int (Int32.ofNat c1)), .val (.int (Int32.ofNat i))] [])
      refine own_go (fun t_ k_ => XS.iload Xy.here hx rfl (hb hby d23_88) rfl k_) ?_
      show own_Go p e below _ Ty (mkF m 90 #[.val (.ref vb), .val (.int (0 : Int32)), .val (.int (Int32.ofNat n)), .val (.int (0 : Int32)), .val (.int (Int32.ofNat c1)), .val (.int (Int32.ofNat i))] [(.int (Int32.ofNat c1))])
      refine own_retI Xy hx hlk hret (hb hby d23_90) (by decide) (by decide) ?_
      exact ⟨by have := own_rs_le _ _ hrs; rw [show c1 = K from own_cpEnd hrs hcr hin (by omega) (by omega)], Ny, ey⟩
    | succ kk ih =>
      intro i c1 r Ty Ly Xy Ny ey g0 hrs hcr hin hc6
      show own_Go p e below _ Ty (mkF m 44 #[.val (.ref vb), .val (.int (0 : Int32)), .val (.int (Int32.ofNat n)), .val (.int (0 : Int32)), .val (.int (Int32.ofNat c1)), .val (.int (Int32.ofNat i))] [])
      refine own_go (fun t_ k_ => XS.iload Xy.here hx rfl (hb hby d23_44) rfl k_) ?_
      show own_Go p e below _ Ty (mkF m 46 #[.val (.ref vb), .val (.int (0 : Int32)), .val (.int (Int32.ofNat n)), .val (.int (0 : Int32)), .val (.int (Int32.ofNat c1)), .val (.int (Int32.ofNat i))] [(.int (Int32.ofNat i))])
      refine own_go (fun t_ k_ => XS.iloadN Xy.here hx rfl (hb hby d23_46) rfl k_) ?_
      show own_Go p e below _ Ty (mkF m 47 #[.val (.ref vb), .val (.int (0 : Int32)), .val (.int (Int32.ofNat n)), .val (.int (0 : Int32)), .val (.int (Int32.ofNat c1)), .val (.int (Int32.ofNat i))] [(.int (Int32.ofNat n)), (.int (Int32.ofNat i))])
      refine own_go (fun t_ k_ => XS.iconst Xy.here hx rfl (hb hby d23_47) k_) ?_
      show own_Go p e below _ Ty (mkF m 48 #[.val (.ref vb), .val (.int (0 : Int32)), .val (.int (Int32.ofNat n)), .val (.int (0 : Int32)), .val (.int (Int32.ofNat c1)), .val (.int (Int32.ofNat i))] [(.int (1 : Int32)), (.int (Int32.ofNat n)), (.int (Int32.ofNat i))])
      refine own_go (fun t_ k_ => XS.isub Xy.here hx rfl (hb hby d23_48) rfl k_) ?_
      show own_Go p e below _ Ty (mkF m 49 #[.val (.ref vb), .val (.int (0 : Int32)), .val (.int (Int32.ofNat n)), .val (.int (0 : Int32)), .val (.int (Int32.ofNat c1)), .val (.int (Int32.ofNat i))] [(.int ((Int32.ofNat n) - (1 : Int32))), (.int (Int32.ofNat i))])
      rw [show ((Int32.ofNat n) - (1 : Int32)) = (Int32.ofNat (n - 1)) from own_oSub (a := n) (b := 1) (by omega) (by omega)]
      show own_Go p e below _ Ty (mkF m 49 #[.val (.ref vb), .val (.int (0 : Int32)), .val (.int (Int32.ofNat n)), .val (.int (0 : Int32)), .val (.int (Int32.ofNat c1)), .val (.int (Int32.ofNat i))] [(.int (Int32.ofNat (n - 1))), (.int (Int32.ofNat i))])
      by_cases hlt : i < (n - 1)
      · show own_Go p e below _ Ty (mkF m 49 #[.val (.ref vb), .val (.int (0 : Int32)), .val (.int (Int32.ofNat n)), .val (.int (0 : Int32)), .val (.int (Int32.ofNat c1)), .val (.int (Int32.ofNat i))] [(.int (Int32.ofNat (n - 1))), (.int (Int32.ofNat i))])
        refine own_go (fun t_ k_ => XS.icmpNo Xy.here hx rfl (hb hby d23_49) rfl (XT.ii_ge_f ((own_oLt (by omega) (by omega)).mpr hlt)) k_) ?_
        show own_Go p e below _ Ty (mkF m 52 #[.val (.ref vb), .val (.int (0 : Int32)), .val (.int (Int32.ofNat n)), .val (.int (0 : Int32)), .val (.int (Int32.ofNat c1)), .val (.int (Int32.ofNat i))] [])
        obtain ⟨rr, rfl, hst⟩ : ∃ rr, r = rr + 1 ∧ ((¬ own_hi (f i) ∧ own_rs f n rr (i + 1)) ∨ (own_hi (f i) ∧ i + 1 < n ∧ own_lo (f (i + 1)) ∧ own_rs f n rr (i + 2))) := by
          cases r with
          | zero => have q : i = n := hrs; omega
          | succ rr => exact ⟨rr, rfl, hrs.2⟩
        refine own_go (fun t_ k_ => XS.aloadN Xy.here hx rfl (hb hby d23_52) rfl rfl k_) ?_
        show own_Go p e below _ Ty (mkF m 53 #[.val (.ref vb), .val (.int (0 : Int32)), .val (.int (Int32.ofNat n)), .val (.int (0 : Int32)), .val (.int (Int32.ofNat c1)), .val (.int (Int32.ofNat i))] [(.ref vb)])
        refine own_go (fun t_ k_ => XS.iload Xy.here hx rfl (hb hby d23_53) rfl k_) ?_
        show own_Go p e below _ Ty (mkF m 55 #[.val (.ref vb), .val (.int (0 : Int32)), .val (.int (Int32.ofNat n)), .val (.int (0 : Int32)), .val (.int (Int32.ofNat c1)), .val (.int (Int32.ofNat i))] [(.int (Int32.ofNat i)), (.ref vb)])
        refine own_go (fun t_ k_ => XS.iinc Xy.here hx rfl (hb hby d23_55) rfl (l' := #[.val (.ref vb), .val (.int (0 : Int32)), .val (.int (Int32.ofNat n)), .val (.int (0 : Int32)), .val (.int (Int32.ofNat c1)), .val (.int ((Int32.ofNat i) + (1 : Int32)))]) rfl k_) ?_
        show own_Go p e below _ Ty (mkF m 58 #[.val (.ref vb), .val (.int (0 : Int32)), .val (.int (Int32.ofNat n)), .val (.int (0 : Int32)), .val (.int (Int32.ofNat c1)), .val (.int ((Int32.ofNat i) + (1 : Int32)))] [(.int (Int32.ofNat i)), (.ref vb)])
        rw [show ((Int32.ofNat i) + (1 : Int32)) = (Int32.ofNat (i + 1)) from own_oAdd i 1]
        show own_Go p e below _ Ty (mkF m 58 #[.val (.ref vb), .val (.int (0 : Int32)), .val (.int (Int32.ofNat n)), .val (.int (0 : Int32)), .val (.int (Int32.ofNat c1)), .val (.int (Int32.ofNat (i + 1)))] [(.int (Int32.ofNat i)), (.ref vb)])
        obtain ⟨_, T2, L2, X2, ⟨rfl, N2, e2⟩, st2⟩ := own_callS Xy hx hZ (y := (⟨"java/lang/StringUTF16", "getChar", "([BI)C"⟩ : MethodName)) (argsL := [(.ref vb), (.int (Int32.ofNat i))]) (rest := []) (Ls := #[.val (.ref vb), .val (.int (0 : Int32)), .val (.int (Int32.ofNat n)), .val (.int (0 : Int32)), .val (.int (Int32.ofNat c1)), .val (.int (Int32.ofNat (i + 1)))]) hown (own_w hw 97 rfl) (own_w hw 98 rfl) (own_w hw 70 rfl) (own_w hw 99 rfl) (by decide) ey (rmGC l Z a0 hw [] vb n i f h0 n0 (own_oldge O0) O0 S_ad S_hi S_lo V_v (by omega) hn (hc _)) 0 (by decide) (by decide) (by decide) (by decide) (by rw [hml]; rfl) (lenOf pd_13 rfl) rfl (Nat.le_of_eq rfl) (hb hby d23_58)
        have M2 := Fr.app Ny N2
        refine own_go st2 ?_
        show own_Go p e below _ T2 (mkF m 61 #[.val (.ref vb), .val (.int (0 : Int32)), .val (.int (Int32.ofNat n)), .val (.int (0 : Int32)), .val (.int (Int32.ofNat c1)), .val (.int (Int32.ofNat (i + 1)))] [(.int (f i))])
        obtain ⟨_, T3, L3, X3, ⟨rfl, N3, e3⟩, st3⟩ := own_callS X2 hx hZ (y := (⟨"java/lang/Character", "isHighSurrogate", "(C)Z"⟩ : MethodName)) (argsL := [(.int (f i))]) (rest := []) (Ls := #[.val (.ref vb), .val (.int (0 : Int32)), .val (.int (Int32.ofNat n)), .val (.int (0 : Int32)), .val (.int (Int32.ofNat c1)), .val (.int (Int32.ofNat (i + 1)))]) hown (own_w hw 106 rfl) (own_w hw 107 rfl) (own_w hw 108 rfl) (own_w hw 109 rfl) (by decide) e2 (rmHi l Z a0 hw [] (f i) h0 n0 Z0) 0 (by decide) (by decide) (by decide) (by decide) (by rw [hml]; rfl) (lenOf pd_4 rfl) rfl (Nat.le_of_eq rfl) (hb hby d23_61)
        have M3 := Fr.app M2 N3
        refine own_go st3 ?_
        show own_Go p e below _ T3 (mkF m 64 #[.val (.ref vb), .val (.int (0 : Int32)), .val (.int (Int32.ofNat n)), .val (.int (0 : Int32)), .val (.int (Int32.ofNat c1)), .val (.int (Int32.ofNat (i + 1)))] [(.int (if own_hi (f i) then 1 else 0))])
        by_cases hh : ¬ own_hi (f i)
        · show own_Go p e below _ T3 (mkF m 64 #[.val (.ref vb), .val (.int (0 : Int32)), .val (.int (Int32.ofNat n)), .val (.int (0 : Int32)), .val (.int (Int32.ofNat c1)), .val (.int (Int32.ofNat (i + 1)))] [(.int (if own_hi (f i) then 1 else 0))])
          refine own_go (fun t_ k_ => XS.ifYes X3.here hx rfl (pc0 := 64) (pc' := 44) rfl (hb hby d23_64) rfl (XT.i0_eq_t (own_ite0.mpr hh)) (by decide) (by decide) k_) ?_
          show own_Go p e below _ T3 (mkF m 44 #[.val (.ref vb), .val (.int (0 : Int32)), .val (.int (Int32.ofNat n)), .val (.int (0 : Int32)), .val (.int (Int32.ofNat c1)), .val (.int (Int32.ofNat (i + 1)))] [])
          have q3 := hst.elim (fun q => q.2) (fun q => absurd q.1 hh)
          have := own_rs_le _ _ q3
          exact ih _ _ rr T3 _ X3 M3 e3 (by omega) q3 (by omega) (by omega) (by omega)
        · show own_Go p e below _ T3 (mkF m 64 #[.val (.ref vb), .val (.int (0 : Int32)), .val (.int (Int32.ofNat n)), .val (.int (0 : Int32)), .val (.int (Int32.ofNat c1)), .val (.int (Int32.ofNat (i + 1)))] [(.int (if own_hi (f i) then 1 else 0))])
          refine own_go (fun t_ k_ => XS.ifNo X3.here hx rfl (hb hby d23_64) rfl (XT.i0_eq_f (fun q => hh (own_ite0.mp q))) k_) ?_
          show own_Go p e below _ T3 (mkF m 67 #[.val (.ref vb), .val (.int (0 : Int32)), .val (.int (Int32.ofNat n)), .val (.int (0 : Int32)), .val (.int (Int32.ofNat c1)), .val (.int (Int32.ofNat (i + 1)))] [])
          refine own_go (fun t_ k_ => XS.aloadN X3.here hx rfl (hb hby d23_67) rfl rfl k_) ?_
          show own_Go p e below _ T3 (mkF m 68 #[.val (.ref vb), .val (.int (0 : Int32)), .val (.int (Int32.ofNat n)), .val (.int (0 : Int32)), .val (.int (Int32.ofNat c1)), .val (.int (Int32.ofNat (i + 1)))] [(.ref vb)])
          refine own_go (fun t_ k_ => XS.iload X3.here hx rfl (hb hby d23_68) rfl k_) ?_
          show own_Go p e below _ T3 (mkF m 70 #[.val (.ref vb), .val (.int (0 : Int32)), .val (.int (Int32.ofNat n)), .val (.int (0 : Int32)), .val (.int (Int32.ofNat c1)), .val (.int (Int32.ofNat (i + 1)))] [(.int (Int32.ofNat (i + 1))), (.ref vb)])
          obtain ⟨_, T4, L4, X4, ⟨rfl, N4, e4⟩, st4⟩ := own_callS X3 hx hZ (y := (⟨"java/lang/StringUTF16", "getChar", "([BI)C"⟩ : MethodName)) (argsL := [(.ref vb), (.int (Int32.ofNat (i + 1)))]) (rest := []) (Ls := #[.val (.ref vb), .val (.int (0 : Int32)), .val (.int (Int32.ofNat n)), .val (.int (0 : Int32)), .val (.int (Int32.ofNat c1)), .val (.int (Int32.ofNat (i + 1)))]) hown (own_w hw 97 rfl) (own_w hw 98 rfl) (own_w hw 70 rfl) (own_w hw 99 rfl) (by decide) e3 (rmGC l Z a0 hw [] vb n (i + 1) f h0 n0 (own_oldge O0) O0 S_ad S_hi S_lo V_v (by omega) hn (hc _)) 0 (by decide) (by decide) (by decide) (by decide) (by rw [hml]; rfl) (lenOf pd_13 rfl) rfl (Nat.le_of_eq rfl) (hb hby d23_70)
          have M4 := Fr.app M3 N4
          refine own_go st4 ?_
          show own_Go p e below _ T4 (mkF m 73 #[.val (.ref vb), .val (.int (0 : Int32)), .val (.int (Int32.ofNat n)), .val (.int (0 : Int32)), .val (.int (Int32.ofNat c1)), .val (.int (Int32.ofNat (i + 1)))] [(.int (f (i + 1)))])
          obtain ⟨_, T5, L5, X5, ⟨rfl, N5, e5⟩, st5⟩ := own_callS X4 hx hZ (y := (⟨"java/lang/Character", "isLowSurrogate", "(C)Z"⟩ : MethodName)) (argsL := [(.int (f (i + 1)))]) (rest := []) (Ls := #[.val (.ref vb), .val (.int (0 : Int32)), .val (.int (Int32.ofNat n)), .val (.int (0 : Int32)), .val (.int (Int32.ofNat c1)), .val (.int (Int32.ofNat (i + 1)))]) hown (own_w hw 112 rfl) (own_w hw 113 rfl) (own_w hw 108 rfl) (own_w hw 114 rfl) (by decide) e4 (rmLo l Z a0 hw [] (f (i + 1)) h0 n0 Z0) 0 (by decide) (by decide) (by decide) (by decide) (by rw [hml]; rfl) (lenOf pd_4 rfl) rfl (Nat.le_of_eq rfl) (hb hby d23_73)
          have M5 := Fr.app M4 N5
          refine own_go st5 ?_
          show own_Go p e below _ T5 (mkF m 76 #[.val (.ref vb), .val (.int (0 : Int32)), .val (.int (Int32.ofNat n)), .val (.int (0 : Int32)), .val (.int (Int32.ofNat c1)), .val (.int (Int32.ofNat (i + 1)))] [(.int (if own_lo (f (i + 1)) then 1 else 0))])
          by_cases hlo : ¬ own_lo (f (i + 1))
          · show own_Go p e below _ T5 (mkF m 76 #[.val (.ref vb), .val (.int (0 : Int32)), .val (.int (Int32.ofNat n)), .val (.int (0 : Int32)), .val (.int (Int32.ofNat c1)), .val (.int (Int32.ofNat (i + 1)))] [(.int (if own_lo (f (i + 1)) then 1 else 0))])
            refine own_go (fun t_ k_ => XS.ifYes X5.here hx rfl (pc0 := 76) (pc' := 44) rfl (hb hby d23_76) rfl (XT.i0_eq_t (own_ite0.mpr hlo)) (by decide) (by decide) k_) ?_
            show own_Go p e below _ T5 (mkF m 44 #[.val (.ref vb), .val (.int (0 : Int32)), .val (.int (Int32.ofNat n)), .val (.int (0 : Int32)), .val (.int (Int32.ofNat c1)), .val (.int (Int32.ofNat (i + 1)))] [])
            exact absurd (hst.elim (fun q => absurd (Classical.not_not.mp hh) q.1) (fun q => q.2.2.1)) hlo
          · show own_Go p e below _ T5 (mkF m 76 #[.val (.ref vb), .val (.int (0 : Int32)), .val (.int (Int32.ofNat n)), .val (.int (0 : Int32)), .val (.int (Int32.ofNat c1)), .val (.int (Int32.ofNat (i + 1)))] [(.int (if own_lo (f (i + 1)) then 1 else 0))])
            refine own_go (fun t_ k_ => XS.ifNo X5.here hx rfl (hb hby d23_76) rfl (XT.i0_eq_f (fun q => hlo (own_ite0.mp q))) k_) ?_
            show own_Go p e below _ T5 (mkF m 79 #[.val (.ref vb), .val (.int (0 : Int32)), .val (.int (Int32.ofNat n)), .val (.int (0 : Int32)), .val (.int (Int32.ofNat c1)), .val (.int (Int32.ofNat (i + 1)))] [])
            refine own_go (fun t_ k_ => XS.iinc X5.here hx rfl (hb hby d23_79) rfl (l' := #[.val (.ref vb), .val (.int (0 : Int32)), .val (.int (Int32.ofNat n)), .val (.int (0 : Int32)), .val (.int ((Int32.ofNat c1) + (-1 : Int32))), .val (.int (Int32.ofNat (i + 1)))]) rfl k_) ?_
            show own_Go p e below _ T5 (mkF m 82 #[.val (.ref vb), .val (.int (0 : Int32)), .val (.int (Int32.ofNat n)), .val (.int (0 : Int32)), .val (.int ((Int32.ofNat c1) + (-1 : Int32))), .val (.int (Int32.ofNat (i + 1)))] [])
            have hc0 : 1 ≤ c1 := by have := hst.elim (fun q => absurd (Classical.not_not.mp hh) q.1) (fun q => own_rs_le _ _ q.2.2.2); have := hst.elim (fun q => absurd (Classical.not_not.mp hh) q.1) (fun q => q.2.1); omega
            rw [show ((Int32.ofNat c1) + (-1 : Int32)) = Int32.ofNat (c1 - 1) from own_dec hc0 hc6]
            show own_Go p e below _ T5 (mkF m 82 #[.val (.ref vb), .val (.int (0 : Int32)), .val (.int (Int32.ofNat n)), .val (.int (0 : Int32)), .val (.int (Int32.ofNat (c1 - 1))), .val (.int (Int32.ofNat (i + 1)))] [])
            refine own_go (fun t_ k_ => XS.iinc X5.here hx rfl (hb hby d23_82) rfl (l' := #[.val (.ref vb), .val (.int (0 : Int32)), .val (.int (Int32.ofNat n)), .val (.int (0 : Int32)), .val (.int (Int32.ofNat (c1 - 1))), .val (.int ((Int32.ofNat (i + 1)) + (1 : Int32)))]) rfl k_) ?_
            show own_Go p e below _ T5 (mkF m 85 #[.val (.ref vb), .val (.int (0 : Int32)), .val (.int (Int32.ofNat n)), .val (.int (0 : Int32)), .val (.int (Int32.ofNat (c1 - 1))), .val (.int ((Int32.ofNat (i + 1)) + (1 : Int32)))] [])
            rw [show ((Int32.ofNat (i + 1)) + (1 : Int32)) = (Int32.ofNat ((i + 1) + 1)) from own_oAdd (i + 1) 1]
            show own_Go p e below _ T5 (mkF m 85 #[.val (.ref vb), .val (.int (0 : Int32)), .val (.int (Int32.ofNat n)), .val (.int (0 : Int32)), .val (.int (Int32.ofNat (c1 - 1))), .val (.int (Int32.ofNat ((i + 1) + 1)))] [])
            refine own_go (fun t_ k_ => XS.goto X5.here hx rfl (pc0 := 85) (pc' := 44) rfl (hb hby d23_85) (by decide) (by decide) k_) ?_
            show own_Go p e below _ T5 (mkF m 44 #[.val (.ref vb), .val (.int (0 : Int32)), .val (.int (Int32.ofNat n)), .val (.int (0 : Int32)), .val (.int (Int32.ofNat (c1 - 1))), .val (.int (Int32.ofNat ((i + 1) + 1)))] [])
            obtain ⟨q1, q2, q3⟩ := hst.elim (fun q => absurd (Classical.not_not.mp hh) q.1) (fun q => q.2)
            have := own_rs_le _ _ q3
            exact ih _ _ rr T5 _ X5 M5 e5 (by omega) q3 (by omega) (by omega) (by omega)
      · show own_Go p e below _ Ty (mkF m 49 #[.val (.ref vb), .val (.int (0 : Int32)), .val (.int (Int32.ofNat n)), .val (.int (0 : Int32)), .val (.int (Int32.ofNat c1)), .val (.int (Int32.ofNat i))] [(.int (Int32.ofNat (n - 1))), (.int (Int32.ofNat i))])
        refine own_go (fun t_ k_ => XS.icmpYes Xy.here hx rfl (pc0 := 49) (pc' := 88) rfl (hb hby d23_49) rfl (XT.ii_ge_t (fun q => hlt ((own_oLt (by omega) (by omega)).mp q))) (by decide) (by decide) k_) ?_
        show own_Go p e below _ Ty (mkF m 88 #[.val (.ref vb), .val (.int (0 : Int32)), .val (.int (Int32.ofNat n)), .val (.int (0 : Int32)), .val (.int (Int32.ofNat c1)), .val (.int (Int32.ofNat i))] [])
        refine own_go (fun t_ k_ => XS.iload Xy.here hx rfl (hb hby d23_88) rfl k_) ?_
        show own_Go p e below _ Ty (mkF m 90 #[.val (.ref vb), .val (.int (0 : Int32)), .val (.int (Int32.ofNat n)), .val (.int (0 : Int32)), .val (.int (Int32.ofNat c1)), .val (.int (Int32.ofNat i))] [(.int (Int32.ofNat c1))])
        refine own_retI Xy hx hlk hret (hb hby d23_90) (by decide) (by decide) ?_
        exact ⟨by have := own_rs_le _ _ hrs; rw [show c1 = K from own_cpEnd hrs hcr hin (by omega) (by omega)], Ny, ey⟩
  exact lp1 n 0 n K T1 _ X1 N0 e1 (by omega) hrs0 (by omega) (by omega) hn
set_option maxRecDepth 65536 in
set_option maxHeartbeats 40000000 in
theorem rmC2 (l : Launch) (Z : State) (a0 : Array Value) (hw : ∀ d ∈ tables_1, d.before a0 Z = true) (ws : List Jvm.Cond) (vb : Addr) (n K : Nat) (f : Nat → Int32) (h0 : Heap) (n0 : Nat) (Z0 : n0 ≤ h0.size) (O0 : Old Z n0 h0) (S_ad : Sta Z Z.heap "java/lang/StringUTF16" "$assertionsDisabled" "Z" (.int (1 : Int32))) (S_hi : Sta Z Z.heap "java/lang/StringUTF16" "HI_BYTE_SHIFT" "I" (.int (0 : Int32))) (S_lo : Sta Z Z.heap "java/lang/StringUTF16" "LO_BYTE_SHIFT" "I" (.int (8 : Int32))) (V_v : own_BA Z h0 vb (2 * n) (own_by f)) (hc : ∀ x, own_isC (f x)) (hn : n ≤ 6) (hn0 : 0 < n) (hrs0 : own_rs f n K 0) :
    own_Met l Z (⟨"java/lang/StringUTF16", "codePointCount", "([BII)I"⟩ : MethodName) jdk_52_method_12_code 3 (some .int) ws ({ frames := 2, cells := 0, slots := 0, locals := 30 } : Room) #[(.ref vb), (.int (0 : Int32)), (.int (Int32.ofNat n))] h0 (fun v h L => v = some (.int (Int32.ofNat K)) ∧ Fr n0 L ∧ h = h0) := by
  refine own_body (by first | exact plainFor_of_name pn_java_lang_StringUTF16 | decide +kernel) ?_
  intro p e s m below meth c T0 X0 hx hby hml hret hlk hZ hown hnm e0
  have hown : s.vm.findClass "java/lang/StringUTF16" = some m.cls := hown
  have hnm : meth.name = "codePointCount" := hnm
  have N0 := Fr.nil n0
  rw [ef_22 m vb (0 : Int32) (Int32.ofNat n)]
  show own_Go p e below _ T0 (mkF m 0 #[.val (.ref vb), .val (.int (0 : Int32)), .val (.int (Int32.ofNat n))] [])
  refine own_go (fun t_ k_ => XS.aloadN X0.here hx rfl (hb hby d22_0) rfl rfl k_) ?_
  show own_Go p e below _ T0 (mkF m 1 #[.val (.ref vb), .val (.int (0 : Int32)), .val (.int (Int32.ofNat n))] [(.ref vb)])
  refine own_go (fun t_ k_ => XS.iloadN X0.here hx rfl (hb hby d22_1) rfl k_) ?_
  show own_Go p e below _ T0 (mkF m 2 #[.val (.ref vb), .val (.int (0 : Int32)), .val (.int (Int32.ofNat n))] [(.int (0 : Int32)), (.ref vb)])
  refine own_go (fun t_ k_ => XS.iloadN X0.here hx rfl (hb hby d22_2) rfl k_) ?_
  show own_Go p e below _ T0 (mkF m 3 #[.val (.ref vb), .val (.int (0 : Int32)), .val (.int (Int32.ofNat n))] [(.int (Int32.ofNat n)), (.int (0 : Int32)), (.ref vb)])
  refine own_go (fun t_ k_ => XS.iconst X0.here hx rfl (hb hby d22_3) k_) ?_
  show own_Go p e below _ T0 (mkF m 4 #[.val (.ref vb), .val (.int (0 : Int32)), .val (.int (Int32.ofNat n))] [(.int (0 : Int32)), (.int (Int32.ofNat n)), (.int (0 : Int32)), (.ref vb)])
  obtain ⟨_, T1, L1, X1, ⟨rfl, N1, e1⟩, st1⟩ := own_callS X0 hx hZ (y := (⟨"java/lang/StringUTF16", "codePointCount", "([BIIZ)I"⟩ : MethodName)) (argsL := [(.ref vb), (.int (0 : Int32)), (.int (Int32.ofNat n)), (.int (0 : Int32))]) (rest := []) (Ls := #[.val (.ref vb), .val (.int (0 : Int32)), .val (.int (Int32.ofNat n))]) hown (own_w hw 103 rfl) (own_w hw 104 rfl) (own_w hw 70 rfl) (own_w hw 105 rfl) (by decide) e0 (rmC4 l Z a0 hw [] vb n K f h0 n0 (own_oldge O0) O0 S_ad S_hi S_lo V_v hc hn hn0 hrs0) 0 (by decide) (by decide) (by decide) (by decide) (by rw [hml]; rfl) (lenOf pd_16 rfl) rfl (Nat.le_of_eq rfl) (hb hby d22_4)
  have M1 := Fr.app N0 N1
  refine own_go st1 ?_
  show own_Go p e below _ T1 (mkF m 7 #[.val (.ref vb), .val (.int (0 : Int32)), .val (.int (Int32.ofNat n))] [(.int (Int32.ofNat K))])
  refine own_retI X1 hx hlk hret (hb hby d22_7) (by decide) (by decide) ?_
  exact ⟨rfl, M1, e1⟩
set_option maxRecDepth 65536 in
set_option maxHeartbeats 40000000 in
theorem rmCo_0 (l : Launch) (Z : State) (a0 : Array Value) (hw : ∀ d ∈ tables_1, d.before a0 Z = true) (ws : List Jvm.Cond) (a vb : Addr) (n : Nat) (gg : Nat → Int32) (cs : Int32) (h0 : Heap) (n0 : Nat) (Z0 : n0 ≤ h0.size) (O0 : Old Z n0 h0) (S_cs : Sta Z Z.heap "java/lang/String" "COMPACT_STRINGS" "Z" (.int cs)) (hcs : ¬ cs = 0) (E_a : Exa Z h0 a "java/lang/String") (F_v : Fld Z h0 a "java/lang/String" "value" "[B" (.ref vb)) (F_c : Fld Z h0 a "java/lang/String" "coder" "B" (.int (0 : Int32))) (V_v : own_BA Z h0 vb n gg) :
    own_Met l Z (⟨"java/lang/String", "coder", "()B"⟩ : MethodName) jdk_42_method_152_code 1 (some .byte) ws ({ frames := 0, cells := 0, slots := 0, locals := 0 } : Room) #[(.ref a)] h0 (fun v h L => v = some (.int (0 : Int32)) ∧ Fr n0 L ∧ h = h0) := by
  refine own_body (by first | exact plainFor_of_name pn_java_lang_String | decide +kernel) ?_
  intro p e s m below meth c T0 X0 hx hby hml hret hlk hZ hown hnm e0
  have hown : s.vm.findClass "java/lang/String" = some m.cls := hown
  have hnm : meth.name = "coder" := hnm
  have N0 := Fr.nil n0
  rw [ef_8 m a]
  show own_Go p e below _ T0 (mkF m 0 #[.val (.ref a)] [])
  obtain ⟨T1, X1, e1, st1⟩ := getS2 X0 hx hZ hown (host := "") (Or.inl (own_w hw 45 rfl)) Via.refl e0 (S_cs.ext O0.2) (g := (mkF m 0 #[.val (.ref a)] [])) rfl (hb hby d8_0)
  refine own_go st1 ?_
  show own_Go p e below _ T1 (mkF m 3 #[.val (.ref a)] [(.int cs)])
  refine own_go (fun t_ k_ => XS.ifNo X1.here hx rfl (hb hby d8_3) rfl (XT.i0_eq_f hcs) k_) ?_
  show own_Go p e below _ T1 (mkF m 6 #[.val (.ref a)] [])
  refine own_go (fun t_ k_ => XS.aloadN X1.here hx rfl (hb hby d8_6) rfl rfl k_) ?_
  show own_Go p e below _ T1 (mkF m 7 #[.val (.ref a)] [(.ref a)])
  obtain ⟨T2, X2, e2, st2⟩ := getF X1 hx hZ hown (host := "") (Or.inl (own_w hw 25 rfl)) Via.refl e1 F_c (g := (mkF m 7 #[.val (.ref a)] [(.ref a)])) rfl rfl (hb hby d8_7)
  refine own_go st2 ?_
  show own_Go p e below _ T2 (mkF m 10 #[.val (.ref a)] [(.int (0 : Int32))])
  refine own_go (fun t_ k_ => XS.goto X2.here hx rfl (pc0 := 10) (pc' := 14) rfl (hb hby d8_10) (by decide) (by decide) k_) ?_
  show own_Go p e below _ T2 (mkF m 14 #[.val (.ref a)] [(.int (0 : Int32))])
  refine own_ret X2 hx hlk hret (hb hby d8_14) rfl (Or.inl ⟨rfl, by simp, _, rfl⟩) (by decide) (by decide) ?_
  exact ⟨rfl, N0, e2⟩
set_option maxRecDepth 65536 in
set_option maxHeartbeats 40000000 in
theorem rmLe_0 (l : Launch) (Z : State) (a0 : Array Value) (hw : ∀ d ∈ tables_1, d.before a0 Z = true) (ws : List Jvm.Cond) (a vb : Addr) (n : Nat) (gg : Nat → Int32) (cs : Int32) (h0 : Heap) (n0 : Nat) (Z0 : n0 ≤ h0.size) (O0 : Old Z n0 h0) (S_cs : Sta Z Z.heap "java/lang/String" "COMPACT_STRINGS" "Z" (.int cs)) (hcs : ¬ cs = 0) (E_a : Exa Z h0 a "java/lang/String") (F_v : Fld Z h0 a "java/lang/String" "value" "[B" (.ref vb)) (F_c : Fld Z h0 a "java/lang/String" "coder" "B" (.int (0 : Int32))) (V_v : own_BA Z h0 vb n gg) (hn : n ≤ 6) :
    own_Met l Z (⟨"java/lang/String", "length", "()I"⟩ : MethodName) jdk_42_method_54_code 1 (some .int) ws ({ frames := 1, cells := 0, slots := 0, locals := 13 } : Room) #[(.ref a)] h0 (fun v h L => v = some (.int (Int32.ofNat n)) ∧ Fr n0 L ∧ h = h0) := by
  refine own_body (by first | exact plainFor_of_name pn_java_lang_String | decide +kernel) ?_
  intro p e s m below meth c T0 X0 hx hby hml hret hlk hZ hown hnm e0
  have hown : s.vm.findClass "java/lang/String" = some m.cls := hown
  have hnm : meth.name = "length" := hnm
  have N0 := Fr.nil n0
  rw [ef_7 m a]
  show own_Go p e below _ T0 (mkF m 0 #[.val (.ref a)] [])
  refine own_go (fun t_ k_ => XS.aloadN X0.here hx rfl (hb hby d7_0) rfl rfl k_) ?_
  show own_Go p e below _ T0 (mkF m 1 #[.val (.ref a)] [(.ref a)])
  obtain ⟨T1, X1, e1, st1⟩ := getF X0 hx hZ hown (host := "") (Or.inl (own_w hw 24 rfl)) Via.refl e0 F_v (g := (mkF m 1 #[.val (.ref a)] [(.ref a)])) rfl rfl (hb hby d7_1)
  refine own_go st1 ?_
  show own_Go p e below _ T1 (mkF m 4 #[.val (.ref a)] [(.ref vb)])
  refine own_go (own_lenBA X1 hx hZ e1 (Ls := #[.val (.ref a)]) (rest := []) V_v (hb hby d7_4)) ?_
  show own_Go p e below _ T1 (mkF m 5 #[.val (.ref a)] [(.int (Int32.ofNat n))])
  refine own_go (fun t_ k_ => XS.aloadN X1.here hx rfl (hb hby d7_5) rfl rfl k_) ?_
  show own_Go p e below _ T1 (mkF m 6 #[.val (.ref a)] [(.ref a), (.int (Int32.ofNat n))])
  obtain ⟨_, T2, L2, X2, ⟨rfl, N2, e2⟩, st2⟩ := own_callV X1 hx hZ (y := (⟨"java/lang/String", "coder", "()B"⟩ : MethodName)) (z := (⟨"java/lang/String", "coder", "()B"⟩ : MethodName)) (b := a) (argsL := []) (rest := [(.int (Int32.ofNat n))]) (Ls := #[.val (.ref a)]) hown (own_w hw 40 rfl) (own_w hw 41 rfl) (own_w hw 43 rfl) (notFace_of_selects (args := #[]) (mvT hZ (own_w hw 43 rfl))) (own_w hw 42 rfl) (own_w hw 44 rfl) (own_w hw 7 rfl) (by decide) e1 E_a (rmCo_0 l Z a0 hw [] a vb n gg cs h0 n0 (own_oldge O0) O0 S_cs hcs E_a F_v F_c V_v) 1 (by decide) (by decide) (by decide) (by decide) (by rw [hml]; rfl) (lenOf pd_0 rfl) rfl (Nat.le_of_eq rfl) (hb hby d7_6)
  have M2 := Fr.app N0 N2
  refine own_go st2 ?_
  show own_Go p e below _ T2 (mkF m 9 #[.val (.ref a)] [(.int (0 : Int32)), (.int (Int32.ofNat n))])
  refine own_go (fun t_ k_ => XS.ishr X2.here hx rfl (hb hby d7_9) rfl k_) ?_
  show own_Go p e below _ T2 (mkF m 10 #[.val (.ref a)] [(.int ((Int32.ofNat n) >>> ((0 : Int32) &&& 31)))])
  refine own_retI X2 hx hlk hret (hb hby d7_10) (by decide) (by decide) ?_
  exact ⟨congrArg (fun z => some (Value.int z)) (own_shr0 _), M2, e2⟩
set_option maxRecDepth 65536 in
set_option maxHeartbeats 40000000 in
theorem rmLa_0 (l : Launch) (Z : State) (a0 : Array Value) (hw : ∀ d ∈ tables_1, d.before a0 Z = true) (ws : List Jvm.Cond) (a vb : Addr) (n : Nat) (gg : Nat → Int32) (cs : Int32) (h0 : Heap) (n0 : Nat) (Z0 : n0 ≤ h0.size) (O0 : Old Z n0 h0) (S_cs : Sta Z Z.heap "java/lang/String" "COMPACT_STRINGS" "Z" (.int cs)) (hcs : ¬ cs = 0) (E_a : Exa Z h0 a "java/lang/String") (F_v : Fld Z h0 a "java/lang/String" "value" "[B" (.ref vb)) (F_c : Fld Z h0 a "java/lang/String" "coder" "B" (.int (0 : Int32))) (V_v : own_BA Z h0 vb n gg) :
    own_Met l Z (⟨"java/lang/String", "isLatin1", "()Z"⟩ : MethodName) jdk_42_method_154_code 1 (some .boolean) ws ({ frames := 0, cells := 0, slots := 0, locals := 0 } : Room) #[(.ref a)] h0 (fun v h L => v = some (.int (1 : Int32)) ∧ Fr n0 L ∧ h = h0) := by
  refine own_body (by first | exact plainFor_of_name pn_java_lang_String | decide +kernel) ?_
  intro p e s m below meth c T0 X0 hx hby hml hret hlk hZ hown hnm e0
  have hown : s.vm.findClass "java/lang/String" = some m.cls := hown
  have hnm : meth.name = "isLatin1" := hnm
  have N0 := Fr.nil n0
  rw [ef_12 m a]
  show own_Go p e below _ T0 (mkF m 0 #[.val (.ref a)] [])
  obtain ⟨T1, X1, e1, st1⟩ := getS2 X0 hx hZ hown (host := "") (Or.inl (own_w hw 45 rfl)) Via.refl e0 (S_cs.ext O0.2) (g := (mkF m 0 #[.val (.ref a)] [])) rfl (hb hby d12_0)
  refine own_go st1 ?_
  show own_Go p e below _ T1 (mkF m 3 #[.val (.ref a)] [(.int cs)])
  refine own_go (fun t_ k_ => XS.ifNo X1.here hx rfl (hb hby d12_3) rfl (XT.i0_eq_f hcs) k_) ?_
  show own_Go p e below _ T1 (mkF m 6 #[.val (.ref a)] [])
  refine own_go (fun t_ k_ => XS.aloadN X1.here hx rfl (hb hby d12_6) rfl rfl k_) ?_
  show own_Go p e below _ T1 (mkF m 7 #[.val (.ref a)] [(.ref a)])
  obtain ⟨T2, X2, e2, st2⟩ := getF X1 hx hZ hown (host := "") (Or.inl (own_w hw 25 rfl)) Via.refl e1 F_c (g := (mkF m 7 #[.val (.ref a)] [(.ref a)])) rfl rfl (hb hby d12_7)
  refine own_go st2 ?_
  show own_Go p e below _ T2 (mkF m 10 #[.val (.ref a)] [(.int (0 : Int32))])
  refine own_go (fun t_ k_ => XS.ifNo X2.here hx rfl (hb hby d12_10) rfl (XT.i0_ne_f (by decide)) k_) ?_
  show own_Go p e below _ T2 (mkF m 13 #[.val (.ref a)] [])
  refine own_go (fun t_ k_ => XS.iconst X2.here hx rfl (hb hby d12_13) k_) ?_
  show own_Go p e below _ T2 (mkF m 14 #[.val (.ref a)] [(.int (1 : Int32))])
  refine own_go (fun t_ k_ => XS.goto X2.here hx rfl (pc0 := 14) (pc' := 18) rfl (hb hby d12_14) (by decide) (by decide) k_) ?_
  show own_Go p e below _ T2 (mkF m 18 #[.val (.ref a)] [(.int (1 : Int32))])
  refine own_retZ X2 hx hlk hret (hb hby d12_18) (Or.inr rfl) (by decide) (by decide) ?_
  exact ⟨rfl, N0, e2⟩
set_option maxRecDepth 65536 in
set_option maxHeartbeats 40000000 in
theorem rmCP_0 (l : Launch) (Z : State) (a0 : Array Value) (hw : ∀ d ∈ tables_1, d.before a0 Z = true) (ws : List Jvm.Cond) (a vb : Addr) (n : Nat) (gg : Nat → Int32) (cs : Int32) (K : Nat) (f : Nat → Int32) (h0 : Heap) (n0 : Nat) (Z0 : n0 ≤ h0.size) (O0 : Old Z n0 h0) (S_cs : Sta Z Z.heap "java/lang/String" "COMPACT_STRINGS" "Z" (.int cs)) (hcs : ¬ cs = 0) (E_a : Exa Z h0 a "java/lang/String") (F_v : Fld Z h0 a "java/lang/String" "value" "[B" (.ref vb)) (F_c : Fld Z h0 a "java/lang/String" "coder" "B" (.int (0 : Int32))) (V_v : own_BA Z h0 vb n gg) (S_ad : Sta Z Z.heap "java/lang/StringUTF16" "$assertionsDisabled" "Z" (.int (1 : Int32))) (S_hi : Sta Z Z.heap "java/lang/StringUTF16" "HI_BYTE_SHIFT" "I" (.int (0 : Int32))) (S_lo : Sta Z Z.heap "java/lang/StringUTF16" "LO_BYTE_SHIFT" "I" (.int (8 : Int32))) (hn : n ≤ 6) (hc : ∀ x, own_isC (f x)) (hrs0 : own_rs f n K 0) (hv : ∀ x, x < n → ¬ (255 : Int32) < f x) :
    own_Met l Z (⟨"java/lang/String", "codePointCount", "(II)I"⟩ : MethodName) jdk_42_method_59_code 3 (some .int) ws ({ frames := 3, cells := 0, slots := 0, locals := 44 } : Room) #[(.ref a), (.int (0 : Int32)), (.int (Int32.ofNat n))] h0 (fun v h L => v = some (.int (Int32.ofNat K)) ∧ Fr n0 L ∧ h = h0) := by
  refine own_body (by first | exact plainFor_of_name pn_java_lang_String | decide +kernel) ?_
  intro p e s m below meth c T0 X0 hx hby hml hret hlk hZ hown hnm e0
  have hown : s.vm.findClass "java/lang/String" = some m.cls := hown
  have hnm : meth.name = "codePointCount" := hnm
  have N0 := Fr.nil n0
  rw [ef_9 m a (0 : Int32) (Int32.ofNat n)]
  show own_Go p e below _ T0 (mkF m 0 #[.val (.ref a), .val (.int (0 : Int32)), .val (.int (Int32.ofNat n))] [])
  refine own_go (fun t_ k_ => XS.iloadN X0.here hx rfl (hb hby d9_0) rfl k_) ?_
  show own_Go p e below _ T0 (mkF m 1 #[.val (.ref a), .val (.int (0 : Int32)), .val (.int (Int32.ofNat n))] [(.int (0 : Int32))])
  refine own_go (fun t_ k_ => XS.iloadN X0.here hx rfl (hb hby d9_1) rfl k_) ?_
  show own_Go p e below _ T0 (mkF m 2 #[.val (.ref a), .val (.int (0 : Int32)), .val (.int (Int32.ofNat n))] [(.int (Int32.ofNat n)), (.int (0 : Int32))])
  refine own_go (fun t_ k_ => XS.aloadN X0.here hx rfl (hb hby d9_2) rfl rfl k_) ?_
  show own_Go p e below _ T0 (mkF m 3 #[.val (.ref a), .val (.int (0 : Int32)), .val (.int (Int32.ofNat n))] [(.ref a), (.int (Int32.ofNat n)), (.int (0 : Int32))])
  obtain ⟨_, T1, L1, X1, ⟨rfl, N1, e1⟩, st1⟩ := own_callV X0 hx hZ (y := (⟨"java/lang/String", "length", "()I"⟩ : MethodName)) (z := (⟨"java/lang/String", "length", "()I"⟩ : MethodName)) (b := a) (argsL := []) (rest := [(.int (Int32.ofNat n)), (.int (0 : Int32))]) (Ls := #[.val (.ref a), .val (.int (0 : Int32)), .val (.int (Int32.ofNat n))]) hown (own_w hw 51 rfl) (own_w hw 36 rfl) (own_w hw 38 rfl) (notFace_of_selects (args := #[]) (mvT hZ (own_w hw 38 rfl))) (own_w hw 37 rfl) (own_w hw 39 rfl) (own_w hw 7 rfl) (by decide) e0 E_a (rmLe_0 l Z a0 hw [] a vb n gg cs h0 n0 (own_oldge O0) O0 S_cs hcs E_a F_v F_c V_v hn) 2 (by decide) (by decide) (by decide) (by decide) (by rw [hml]; rfl) (lenOf pd_1 rfl) rfl (Nat.le_of_eq rfl) (hb hby d9_3)
  have M1 := Fr.app N0 N1
  refine own_go st1 ?_
  show own_Go p e below _ T1 (mkF m 6 #[.val (.ref a), .val (.int (0 : Int32)), .val (.int (Int32.ofNat n))] [(.int (Int32.ofNat n)), (.int (Int32.ofNat n)), (.int (0 : Int32))])
  obtain ⟨_, T2, L2, X2, ⟨rfl, N2, e2⟩, st2⟩ := own_callS X1 hx hZ (y := (⟨"java/util/Objects", "checkFromToIndex", "(III)I"⟩ : MethodName)) (argsL := [(.int (0 : Int32)), (.int (Int32.ofNat n)), (.int (Int32.ofNat n))]) (rest := []) (Ls := #[.val (.ref a), .val (.int (0 : Int32)), .val (.int (Int32.ofNat n))]) hown (own_w hw 52 rfl) (own_w hw 53 rfl) (own_w hw 54 rfl) (own_w hw 55 rfl) (by decide) e1 (rmOb l Z a0 hw [] n h0 n0 Z0 hn) 0 (by decide) (by decide) (by decide) (by decide) (by rw [hml]; rfl) (lenOf pd_8 rfl) rfl (Nat.le_of_eq rfl) (hb hby d9_6)
  have M2 := Fr.app M1 N2
  refine own_go st2 ?_
  show own_Go p e below _ T2 (mkF m 9 #[.val (.ref a), .val (.int (0 : Int32)), .val (.int (Int32.ofNat n))] [(.int (0 : Int32))])
  refine own_go (fun t_ k_ => XS.pop X2.here hx rfl (hb hby d9_9) rfl rfl k_) ?_
  show own_Go p e below _ T2 (mkF m 10 #[.val (.ref a), .val (.int (0 : Int32)), .val (.int (Int32.ofNat n))] [])
  refine own_go (fun t_ k_ => XS.aloadN X2.here hx rfl (hb hby d9_10) rfl rfl k_) ?_
  show own_Go p e below _ T2 (mkF m 11 #[.val (.ref a), .val (.int (0 : Int32)), .val (.int (Int32.ofNat n))] [(.ref a)])
  obtain ⟨_, T3, L3, X3, ⟨rfl, N3, e3⟩, st3⟩ := own_callV X2 hx hZ (y := (⟨"java/lang/String", "isLatin1", "()Z"⟩ : MethodName)) (z := (⟨"java/lang/String", "isLatin1", "()Z"⟩ : MethodName)) (b := a) (argsL := []) (rest := []) (Ls := #[.val (.ref a), .val (.int (0 : Int32)), .val (.int (Int32.ofNat n))]) hown (own_w hw 60 rfl) (own_w hw 61 rfl) (own_w hw 63 rfl) (notFace_of_selects (args := #[]) (mvT hZ (own_w hw 63 rfl))) (own_w hw 62 rfl) (own_w hw 64 rfl) (own_w hw 7 rfl) (by decide) e2 E_a (rmLa_0 l Z a0 hw [] a vb n gg cs h0 n0 (own_oldge O0) O0 S_cs hcs E_a F_v F_c V_v) 0 (by decide) (by decide) (by decide) (by decide) (by rw [hml]; rfl) (lenOf pd_3 rfl) rfl (Nat.le_of_eq rfl) (hb hby d9_11)
  have M3 := Fr.app M2 N3
  refine own_go st3 ?_
  show own_Go p e below _ T3 (mkF m 14 #[.val (.ref a), .val (.int (0 : Int32)), .val (.int (Int32.ofNat n))] [(.int (1 : Int32))])
  refine own_go (fun t_ k_ => XS.ifNo X3.here hx rfl (hb hby d9_14) rfl (XT.i0_eq_f (by decide)) k_) ?_
  show own_Go p e below _ T3 (mkF m 17 #[.val (.ref a), .val (.int (0 : Int32)), .val (.int (Int32.ofNat n))] [])
  refine own_go (fun t_ k_ => XS.iloadN X3.here hx rfl (hb hby d9_17) rfl k_) ?_
  show own_Go p e below _ T3 (mkF m 18 #[.val (.ref a), .val (.int (0 : Int32)), .val (.int (Int32.ofNat n))] [(.int (Int32.ofNat n))])
  refine own_go (fun t_ k_ => XS.iloadN X3.here hx rfl (hb hby d9_18) rfl k_) ?_
  show own_Go p e below _ T3 (mkF m 19 #[.val (.ref a), .val (.int (0 : Int32)), .val (.int (Int32.ofNat n))] [(.int (0 : Int32)), (.int (Int32.ofNat n))])
  refine own_go (fun t_ k_ => XS.isub X3.here hx rfl (hb hby d9_19) rfl k_) ?_
  show own_Go p e below _ T3 (mkF m 20 #[.val (.ref a), .val (.int (0 : Int32)), .val (.int (Int32.ofNat n))] [(.int ((Int32.ofNat n) - (0 : Int32)))])
  rw [show ((Int32.ofNat n) - (0 : Int32)) = (Int32.ofNat (n - 0)) from own_oSub (a := n) (b := 0) (by omega) (by omega)]
  show own_Go p e below _ T3 (mkF m 20 #[.val (.ref a), .val (.int (0 : Int32)), .val (.int (Int32.ofNat n))] [(.int (Int32.ofNat (n - 0)))])
  refine own_retI X3 hx hlk hret (hb hby d9_20) (by decide) (by decide) ?_
  exact ⟨by rw [show (n - 0) = K from by have := own_rs_all (fun x hx => own_255 (hc x) (hv x hx)) _ _ hrs0; omega], M3, e3⟩
set_option maxRecDepth 65536 in
set_option maxHeartbeats 40000000 in
theorem rmCo_1 (l : Launch) (Z : State) (a0 : Array Value) (hw : ∀ d ∈ tables_1, d.before a0 Z = true) (ws : List Jvm.Cond) (a vb : Addr) (n : Nat) (f : Nat → Int32) (cs : Int32) (h0 : Heap) (n0 : Nat) (Z0 : n0 ≤ h0.size) (O0 : Old Z n0 h0) (S_cs : Sta Z Z.heap "java/lang/String" "COMPACT_STRINGS" "Z" (.int cs)) (hcs : ¬ cs = 0) (E_a : Exa Z h0 a "java/lang/String") (F_v : Fld Z h0 a "java/lang/String" "value" "[B" (.ref vb)) (F_c : Fld Z h0 a "java/lang/String" "coder" "B" (.int (1 : Int32))) (V_v : own_BA Z h0 vb (2 * n) (own_by f)) :
    own_Met l Z (⟨"java/lang/String", "coder", "()B"⟩ : MethodName) jdk_42_method_152_code 1 (some .byte) ws ({ frames := 0, cells := 0, slots := 0, locals := 0 } : Room) #[(.ref a)] h0 (fun v h L => v = some (.int (1 : Int32)) ∧ Fr n0 L ∧ h = h0) := by
  refine own_body (by first | exact plainFor_of_name pn_java_lang_String | decide +kernel) ?_
  intro p e s m below meth c T0 X0 hx hby hml hret hlk hZ hown hnm e0
  have hown : s.vm.findClass "java/lang/String" = some m.cls := hown
  have hnm : meth.name = "coder" := hnm
  have N0 := Fr.nil n0
  rw [ef_8 m a]
  show own_Go p e below _ T0 (mkF m 0 #[.val (.ref a)] [])
  obtain ⟨T1, X1, e1, st1⟩ := getS2 X0 hx hZ hown (host := "") (Or.inl (own_w hw 45 rfl)) Via.refl e0 (S_cs.ext O0.2) (g := (mkF m 0 #[.val (.ref a)] [])) rfl (hb hby d8_0)
  refine own_go st1 ?_
  show own_Go p e below _ T1 (mkF m 3 #[.val (.ref a)] [(.int cs)])
  refine own_go (fun t_ k_ => XS.ifNo X1.here hx rfl (hb hby d8_3) rfl (XT.i0_eq_f hcs) k_) ?_
  show own_Go p e below _ T1 (mkF m 6 #[.val (.ref a)] [])
  refine own_go (fun t_ k_ => XS.aloadN X1.here hx rfl (hb hby d8_6) rfl rfl k_) ?_
  show own_Go p e below _ T1 (mkF m 7 #[.val (.ref a)] [(.ref a)])
  obtain ⟨T2, X2, e2, st2⟩ := getF X1 hx hZ hown (host := "") (Or.inl (own_w hw 25 rfl)) Via.refl e1 F_c (g := (mkF m 7 #[.val (.ref a)] [(.ref a)])) rfl rfl (hb hby d8_7)
  refine own_go st2 ?_
  show own_Go p e below _ T2 (mkF m 10 #[.val (.ref a)] [(.int (1 : Int32))])
  refine own_go (fun t_ k_ => XS.goto X2.here hx rfl (pc0 := 10) (pc' := 14) rfl (hb hby d8_10) (by decide) (by decide) k_) ?_
  show own_Go p e below _ T2 (mkF m 14 #[.val (.ref a)] [(.int (1 : Int32))])
  refine own_ret X2 hx hlk hret (hb hby d8_14) rfl (Or.inl ⟨rfl, by simp, _, rfl⟩) (by decide) (by decide) ?_
  exact ⟨rfl, N0, e2⟩
set_option maxRecDepth 65536 in
set_option maxHeartbeats 40000000 in
theorem rmLe_1 (l : Launch) (Z : State) (a0 : Array Value) (hw : ∀ d ∈ tables_1, d.before a0 Z = true) (ws : List Jvm.Cond) (a vb : Addr) (n : Nat) (f : Nat → Int32) (cs : Int32) (h0 : Heap) (n0 : Nat) (Z0 : n0 ≤ h0.size) (O0 : Old Z n0 h0) (S_cs : Sta Z Z.heap "java/lang/String" "COMPACT_STRINGS" "Z" (.int cs)) (hcs : ¬ cs = 0) (E_a : Exa Z h0 a "java/lang/String") (F_v : Fld Z h0 a "java/lang/String" "value" "[B" (.ref vb)) (F_c : Fld Z h0 a "java/lang/String" "coder" "B" (.int (1 : Int32))) (V_v : own_BA Z h0 vb (2 * n) (own_by f)) (hn : n ≤ 6) :
    own_Met l Z (⟨"java/lang/String", "length", "()I"⟩ : MethodName) jdk_42_method_54_code 1 (some .int) ws ({ frames := 1, cells := 0, slots := 0, locals := 13 } : Room) #[(.ref a)] h0 (fun v h L => v = some (.int (Int32.ofNat n)) ∧ Fr n0 L ∧ h = h0) := by
  refine own_body (by first | exact plainFor_of_name pn_java_lang_String | decide +kernel) ?_
  intro p e s m below meth c T0 X0 hx hby hml hret hlk hZ hown hnm e0
  have hown : s.vm.findClass "java/lang/String" = some m.cls := hown
  have hnm : meth.name = "length" := hnm
  have N0 := Fr.nil n0
  rw [ef_7 m a]
  show own_Go p e below _ T0 (mkF m 0 #[.val (.ref a)] [])
  refine own_go (fun t_ k_ => XS.aloadN X0.here hx rfl (hb hby d7_0) rfl rfl k_) ?_
  show own_Go p e below _ T0 (mkF m 1 #[.val (.ref a)] [(.ref a)])
  obtain ⟨T1, X1, e1, st1⟩ := getF X0 hx hZ hown (host := "") (Or.inl (own_w hw 24 rfl)) Via.refl e0 F_v (g := (mkF m 1 #[.val (.ref a)] [(.ref a)])) rfl rfl (hb hby d7_1)
  refine own_go st1 ?_
  show own_Go p e below _ T1 (mkF m 4 #[.val (.ref a)] [(.ref vb)])
  refine own_go (own_lenBA X1 hx hZ e1 (Ls := #[.val (.ref a)]) (rest := []) V_v (hb hby d7_4)) ?_
  show own_Go p e below _ T1 (mkF m 5 #[.val (.ref a)] [(.int (Int32.ofNat (2 * n)))])
  refine own_go (fun t_ k_ => XS.aloadN X1.here hx rfl (hb hby d7_5) rfl rfl k_) ?_
  show own_Go p e below _ T1 (mkF m 6 #[.val (.ref a)] [(.ref a), (.int (Int32.ofNat (2 * n)))])
  obtain ⟨_, T2, L2, X2, ⟨rfl, N2, e2⟩, st2⟩ := own_callV X1 hx hZ (y := (⟨"java/lang/String", "coder", "()B"⟩ : MethodName)) (z := (⟨"java/lang/String", "coder", "()B"⟩ : MethodName)) (b := a) (argsL := []) (rest := [(.int (Int32.ofNat (2 * n)))]) (Ls := #[.val (.ref a)]) hown (own_w hw 40 rfl) (own_w hw 41 rfl) (own_w hw 43 rfl) (notFace_of_selects (args := #[]) (mvT hZ (own_w hw 43 rfl))) (own_w hw 42 rfl) (own_w hw 44 rfl) (own_w hw 7 rfl) (by decide) e1 E_a (rmCo_1 l Z a0 hw [] a vb n f cs h0 n0 (own_oldge O0) O0 S_cs hcs E_a F_v F_c V_v) 1 (by decide) (by decide) (by decide) (by decide) (by rw [hml]; rfl) (lenOf pd_0 rfl) rfl (Nat.le_of_eq rfl) (hb hby d7_6)
  have M2 := Fr.app N0 N2
  refine own_go st2 ?_
  show own_Go p e below _ T2 (mkF m 9 #[.val (.ref a)] [(.int (1 : Int32)), (.int (Int32.ofNat (2 * n)))])
  refine own_go (fun t_ k_ => XS.ishr X2.here hx rfl (hb hby d7_9) rfl k_) ?_
  show own_Go p e below _ T2 (mkF m 10 #[.val (.ref a)] [(.int ((Int32.ofNat (2 * n)) >>> ((1 : Int32) &&& 31)))])
  refine own_retI X2 hx hlk hret (hb hby d7_10) (by decide) (by decide) ?_
  exact ⟨congrArg (fun z => some (Value.int z)) (own_shr1 n hn), M2, e2⟩
set_option maxRecDepth 65536 in
set_option maxHeartbeats 40000000 in
theorem rmLa_1 (l : Launch) (Z : State) (a0 : Array Value) (hw : ∀ d ∈ tables_1, d.before a0 Z = true) (ws : List Jvm.Cond) (a vb : Addr) (n : Nat) (f : Nat → Int32) (cs : Int32) (h0 : Heap) (n0 : Nat) (Z0 : n0 ≤ h0.size) (O0 : Old Z n0 h0) (S_cs : Sta Z Z.heap "java/lang/String" "COMPACT_STRINGS" "Z" (.int cs)) (hcs : ¬ cs = 0) (E_a : Exa Z h0 a "java/lang/String") (F_v : Fld Z h0 a "java/lang/String" "value" "[B" (.ref vb)) (F_c : Fld Z h0 a "java/lang/String" "coder" "B" (.int (1 : Int32))) (V_v : own_BA Z h0 vb (2 * n) (own_by f)) :
    own_Met l Z (⟨"java/lang/String", "isLatin1", "()Z"⟩ : MethodName) jdk_42_method_154_code 1 (some .boolean) ws ({ frames := 0, cells := 0, slots := 0, locals := 0 } : Room) #[(.ref a)] h0 (fun v h L => v = some (.int (0 : Int32)) ∧ Fr n0 L ∧ h = h0) := by
  refine own_body (by first | exact plainFor_of_name pn_java_lang_String | decide +kernel) ?_
  intro p e s m below meth c T0 X0 hx hby hml hret hlk hZ hown hnm e0
  have hown : s.vm.findClass "java/lang/String" = some m.cls := hown
  have hnm : meth.name = "isLatin1" := hnm
  have N0 := Fr.nil n0
  rw [ef_12 m a]
  show own_Go p e below _ T0 (mkF m 0 #[.val (.ref a)] [])
  obtain ⟨T1, X1, e1, st1⟩ := getS2 X0 hx hZ hown (host := "") (Or.inl (own_w hw 45 rfl)) Via.refl e0 (S_cs.ext O0.2) (g := (mkF m 0 #[.val (.ref a)] [])) rfl (hb hby d12_0)
  refine own_go st1 ?_
  show own_Go p e below _ T1 (mkF m 3 #[.val (.ref a)] [(.int cs)])
  refine own_go (fun t_ k_ => XS.ifNo X1.here hx rfl (hb hby d12_3) rfl (XT.i0_eq_f hcs) k_) ?_
  show own_Go p e below _ T1 (mkF m 6 #[.val (.ref a)] [])
  refine own_go (fun t_ k_ => XS.aloadN X1.here hx rfl (hb hby d12_6) rfl rfl k_) ?_
  show own_Go p e below _ T1 (mkF m 7 #[.val (.ref a)] [(.ref a)])
  obtain ⟨T2, X2, e2, st2⟩ := getF X1 hx hZ hown (host := "") (Or.inl (own_w hw 25 rfl)) Via.refl e1 F_c (g := (mkF m 7 #[.val (.ref a)] [(.ref a)])) rfl rfl (hb hby d12_7)
  refine own_go st2 ?_
  show own_Go p e below _ T2 (mkF m 10 #[.val (.ref a)] [(.int (1 : Int32))])
  refine own_go (fun t_ k_ => XS.ifYes X2.here hx rfl (pc0 := 10) (pc' := 17) rfl (hb hby d12_10) rfl (XT.i0_ne_t (by decide)) (by decide) (by decide) k_) ?_
  show own_Go p e below _ T2 (mkF m 17 #[.val (.ref a)] [])
  refine own_go (fun t_ k_ => XS.iconst X2.here hx rfl (hb hby d12_17) k_) ?_
  show own_Go p e below _ T2 (mkF m 18 #[.val (.ref a)] [(.int (0 : Int32))])
  refine own_retZ X2 hx hlk hret (hb hby d12_18) (Or.inl rfl) (by decide) (by decide) ?_
  exact ⟨rfl, N0, e2⟩
set_option maxRecDepth 65536 in
set_option maxHeartbeats 40000000 in
theorem rmCP_1 (l : Launch) (Z : State) (a0 : Array Value) (hw : ∀ d ∈ tables_1, d.before a0 Z = true) (ws : List Jvm.Cond) (a vb : Addr) (n : Nat) (f : Nat → Int32) (cs : Int32) (K : Nat) (h0 : Heap) (n0 : Nat) (Z0 : n0 ≤ h0.size) (O0 : Old Z n0 h0) (S_cs : Sta Z Z.heap "java/lang/String" "COMPACT_STRINGS" "Z" (.int cs)) (hcs : ¬ cs = 0) (E_a : Exa Z h0 a "java/lang/String") (F_v : Fld Z h0 a "java/lang/String" "value" "[B" (.ref vb)) (F_c : Fld Z h0 a "java/lang/String" "coder" "B" (.int (1 : Int32))) (V_v : own_BA Z h0 vb (2 * n) (own_by f)) (S_ad : Sta Z Z.heap "java/lang/StringUTF16" "$assertionsDisabled" "Z" (.int (1 : Int32))) (S_hi : Sta Z Z.heap "java/lang/StringUTF16" "HI_BYTE_SHIFT" "I" (.int (0 : Int32))) (S_lo : Sta Z Z.heap "java/lang/StringUTF16" "LO_BYTE_SHIFT" "I" (.int (8 : Int32))) (hn : n ≤ 6) (hc : ∀ x, own_isC (f x)) (hrs0 : own_rs f n K 0) (hn0 : 0 < n) :
    own_Met l Z (⟨"java/lang/String", "codePointCount", "(II)I"⟩ : MethodName) jdk_42_method_59_code 3 (some .int) ws ({ frames := 3, cells := 0, slots := 0, locals := 44 } : Room) #[(.ref a), (.int (0 : Int32)), (.int (Int32.ofNat n))] h0 (fun v h L => v = some (.int (Int32.ofNat K)) ∧ Fr n0 L ∧ h = h0) := by
  refine own_body (by first | exact plainFor_of_name pn_java_lang_String | decide +kernel) ?_
  intro p e s m below meth c T0 X0 hx hby hml hret hlk hZ hown hnm e0
  have hown : s.vm.findClass "java/lang/String" = some m.cls := hown
  have hnm : meth.name = "codePointCount" := hnm
  have N0 := Fr.nil n0
  rw [ef_9 m a (0 : Int32) (Int32.ofNat n)]
  show own_Go p e below _ T0 (mkF m 0 #[.val (.ref a), .val (.int (0 : Int32)), .val (.int (Int32.ofNat n))] [])
  refine own_go (fun t_ k_ => XS.iloadN X0.here hx rfl (hb hby d9_0) rfl k_) ?_
  show own_Go p e below _ T0 (mkF m 1 #[.val (.ref a), .val (.int (0 : Int32)), .val (.int (Int32.ofNat n))] [(.int (0 : Int32))])
  refine own_go (fun t_ k_ => XS.iloadN X0.here hx rfl (hb hby d9_1) rfl k_) ?_
  show own_Go p e below _ T0 (mkF m 2 #[.val (.ref a), .val (.int (0 : Int32)), .val (.int (Int32.ofNat n))] [(.int (Int32.ofNat n)), (.int (0 : Int32))])
  refine own_go (fun t_ k_ => XS.aloadN X0.here hx rfl (hb hby d9_2) rfl rfl k_) ?_
  show own_Go p e below _ T0 (mkF m 3 #[.val (.ref a), .val (.int (0 : Int32)), .val (.int (Int32.ofNat n))] [(.ref a), (.int (Int32.ofNat n)), (.int (0 : Int32))])
  obtain ⟨_, T1, L1, X1, ⟨rfl, N1, e1⟩, st1⟩ := own_callV X0 hx hZ (y := (⟨"java/lang/String", "length", "()I"⟩ : MethodName)) (z := (⟨"java/lang/String", "length", "()I"⟩ : MethodName)) (b := a) (argsL := []) (rest := [(.int (Int32.ofNat n)), (.int (0 : Int32))]) (Ls := #[.val (.ref a), .val (.int (0 : Int32)), .val (.int (Int32.ofNat n))]) hown (own_w hw 51 rfl) (own_w hw 36 rfl) (own_w hw 38 rfl) (notFace_of_selects (args := #[]) (mvT hZ (own_w hw 38 rfl))) (own_w hw 37 rfl) (own_w hw 39 rfl) (own_w hw 7 rfl) (by decide) e0 E_a (rmLe_1 l Z a0 hw [] a vb n f cs h0 n0 (own_oldge O0) O0 S_cs hcs E_a F_v F_c V_v hn) 2 (by decide) (by decide) (by decide) (by decide) (by rw [hml]; rfl) (lenOf pd_1 rfl) rfl (Nat.le_of_eq rfl) (hb hby d9_3)
  have M1 := Fr.app N0 N1
  refine own_go st1 ?_
  show own_Go p e below _ T1 (mkF m 6 #[.val (.ref a), .val (.int (0 : Int32)), .val (.int (Int32.ofNat n))] [(.int (Int32.ofNat n)), (.int (Int32.ofNat n)), (.int (0 : Int32))])
  obtain ⟨_, T2, L2, X2, ⟨rfl, N2, e2⟩, st2⟩ := own_callS X1 hx hZ (y := (⟨"java/util/Objects", "checkFromToIndex", "(III)I"⟩ : MethodName)) (argsL := [(.int (0 : Int32)), (.int (Int32.ofNat n)), (.int (Int32.ofNat n))]) (rest := []) (Ls := #[.val (.ref a), .val (.int (0 : Int32)), .val (.int (Int32.ofNat n))]) hown (own_w hw 52 rfl) (own_w hw 53 rfl) (own_w hw 54 rfl) (own_w hw 55 rfl) (by decide) e1 (rmOb l Z a0 hw [] n h0 n0 Z0 hn) 0 (by decide) (by decide) (by decide) (by decide) (by rw [hml]; rfl) (lenOf pd_8 rfl) rfl (Nat.le_of_eq rfl) (hb hby d9_6)
  have M2 := Fr.app M1 N2
  refine own_go st2 ?_
  show own_Go p e below _ T2 (mkF m 9 #[.val (.ref a), .val (.int (0 : Int32)), .val (.int (Int32.ofNat n))] [(.int (0 : Int32))])
  refine own_go (fun t_ k_ => XS.pop X2.here hx rfl (hb hby d9_9) rfl rfl k_) ?_
  show own_Go p e below _ T2 (mkF m 10 #[.val (.ref a), .val (.int (0 : Int32)), .val (.int (Int32.ofNat n))] [])
  refine own_go (fun t_ k_ => XS.aloadN X2.here hx rfl (hb hby d9_10) rfl rfl k_) ?_
  show own_Go p e below _ T2 (mkF m 11 #[.val (.ref a), .val (.int (0 : Int32)), .val (.int (Int32.ofNat n))] [(.ref a)])
  obtain ⟨_, T3, L3, X3, ⟨rfl, N3, e3⟩, st3⟩ := own_callV X2 hx hZ (y := (⟨"java/lang/String", "isLatin1", "()Z"⟩ : MethodName)) (z := (⟨"java/lang/String", "isLatin1", "()Z"⟩ : MethodName)) (b := a) (argsL := []) (rest := []) (Ls := #[.val (.ref a), .val (.int (0 : Int32)), .val (.int (Int32.ofNat n))]) hown (own_w hw 60 rfl) (own_w hw 61 rfl) (own_w hw 63 rfl) (notFace_of_selects (args := #[]) (mvT hZ (own_w hw 63 rfl))) (own_w hw 62 rfl) (own_w hw 64 rfl) (own_w hw 7 rfl) (by decide) e2 E_a (rmLa_1 l Z a0 hw [] a vb n f cs h0 n0 (own_oldge O0) O0 S_cs hcs E_a F_v F_c V_v) 0 (by decide) (by decide) (by decide) (by decide) (by rw [hml]; rfl) (lenOf pd_3 rfl) rfl (Nat.le_of_eq rfl) (hb hby d9_11)
  have M3 := Fr.app M2 N3
  refine own_go st3 ?_
  show own_Go p e below _ T3 (mkF m 14 #[.val (.ref a), .val (.int (0 : Int32)), .val (.int (Int32.ofNat n))] [(.int (0 : Int32))])
  refine own_go (fun t_ k_ => XS.ifYes X3.here hx rfl (pc0 := 14) (pc' := 21) rfl (hb hby d9_14) rfl (XT.i0_eq_t (by decide)) (by decide) (by decide) k_) ?_
  show own_Go p e below _ T3 (mkF m 21 #[.val (.ref a), .val (.int (0 : Int32)), .val (.int (Int32.ofNat n))] [])
  refine own_go (fun t_ k_ => XS.aloadN X3.here hx rfl (hb hby d9_21) rfl rfl k_) ?_
  show own_Go p e below _ T3 (mkF m 22 #[.val (.ref a), .val (.int (0 : Int32)), .val (.int (Int32.ofNat n))] [(.ref a)])
  obtain ⟨T4, X4, e4, st4⟩ := getF X3 hx hZ hown (host := "") (Or.inl (own_w hw 24 rfl)) Via.refl e3 F_v (g := (mkF m 22 #[.val (.ref a), .val (.int (0 : Int32)), .val (.int (Int32.ofNat n))] [(.ref a)])) rfl rfl (hb hby d9_22)
  refine own_go st4 ?_
  show own_Go p e below _ T4 (mkF m 25 #[.val (.ref a), .val (.int (0 : Int32)), .val (.int (Int32.ofNat n))] [(.ref vb)])
  refine own_go (fun t_ k_ => XS.iloadN X4.here hx rfl (hb hby d9_25) rfl k_) ?_
  show own_Go p e below _ T4 (mkF m 26 #[.val (.ref a), .val (.int (0 : Int32)), .val (.int (Int32.ofNat n))] [(.int (0 : Int32)), (.ref vb)])
  refine own_go (fun t_ k_ => XS.iloadN X4.here hx rfl (hb hby d9_26) rfl k_) ?_
  show own_Go p e below _ T4 (mkF m 27 #[.val (.ref a), .val (.int (0 : Int32)), .val (.int (Int32.ofNat n))] [(.int (Int32.ofNat n)), (.int (0 : Int32)), (.ref vb)])
  obtain ⟨_, T5, L5, X5, ⟨rfl, N5, e5⟩, st5⟩ := own_callS X4 hx hZ (y := (⟨"java/lang/StringUTF16", "codePointCount", "([BII)I"⟩ : MethodName)) (argsL := [(.ref vb), (.int (0 : Int32)), (.int (Int32.ofNat n))]) (rest := []) (Ls := #[.val (.ref a), .val (.int (0 : Int32)), .val (.int (Int32.ofNat n))]) hown (own_w hw 100 rfl) (own_w hw 101 rfl) (own_w hw 70 rfl) (own_w hw 102 rfl) (by decide) e4 (rmC2 l Z a0 hw [] vb n K f h0 n0 (own_oldge O0) O0 S_ad S_hi S_lo V_v hc hn hn0 hrs0) 0 (by decide) (by decide) (by decide) (by decide) (by rw [hml]; rfl) (lenOf pd_14 rfl) rfl (Nat.le_of_eq rfl) (hb hby d9_27)
  have M5 := Fr.app M3 N5
  refine own_go st5 ?_
  show own_Go p e below _ T5 (mkF m 30 #[.val (.ref a), .val (.int (0 : Int32)), .val (.int (Int32.ofNat n))] [(.int (Int32.ofNat K))])
  refine own_retI X5 hx hlk hret (hb hby d9_30) (by decide) (by decide) ?_
  exact ⟨rfl, M5, e5⟩
set_option maxRecDepth 65536 in
set_option maxHeartbeats 40000000 in
theorem rmCkN (l : Launch) (Z : State) (a0 : Array Value) (hw : ∀ d ∈ tables_1, d.before a0 Z = true) (ws : List Jvm.Cond) (nm : Addr) (mx : Int32) (h0 : Heap) (n0 : Nat) (Z0 : n0 ≤ h0.size) :
    own_Met l Z (⟨"com/example/lease/lease/service/Sizes", "checkCharacters", "(Ljava/lang/String;Ljava/lang/String;I)V"⟩ : MethodName) prog_41_method_2_code 3 none ws ({ frames := 4, cells := 0, slots := 0, locals := 58 } : Room) #[(.ref nm), .null, (.int mx)] h0 (fun v h L => v = none ∧ Fr n0 L ∧ h = h0) := by
  refine own_body (by first | exact plainFor_of_name pn_com_example_lease_lease_service_Sizes | decide +kernel) ?_
  intro p e s m below meth c T0 X0 hx hby hml hret hlk hZ hown hnm e0
  have hown : s.vm.findClass "com/example/lease/lease/service/Sizes" = some m.cls := hown
  have hnm : meth.name = "checkCharacters" := hnm
  have N0 := Fr.nil n0
  rw [ef_6n m nm mx]
  show own_Go p e below _ T0 (mkF m 0 #[.val (.ref nm), .val .null, .val (.int mx)] [])
  refine own_go (fun t_ k_ => XS.aloadN X0.here hx rfl (hb hby d6_0) rfl rfl k_) ?_
  show own_Go p e below _ T0 (mkF m 1 #[.val (.ref nm), .val .null, .val (.int mx)] [.null])
  refine own_go (fun t_ k_ => XS.ifnullYes X0.here hx rfl (pc0 := 1) (pc' := 28) rfl (hb hby d6_1) rfl (by decide) (by decide) k_) ?_
  show own_Go p e below _ T0 (mkF m 28 #[.val (.ref nm), .val .null, .val (.int mx)] [])
  refine own_retV X0 hx hlk hret (hb hby d6_28) (by decide) (by decide) ?_
  exact ⟨rfl, N0, e0⟩
set_option maxRecDepth 65536 in
set_option maxHeartbeats 40000000 in
theorem rmCk (l : Launch) (Z : State) (a0 : Array Value) (hw : ∀ d ∈ tables_1, d.before a0 Z = true) (ws : List Jvm.Cond) (nm a : Addr) (mx : Int32) (n K : Nat) (f : Nat → Int32) (cs : Int32) (h0 : Heap) (n0 : Nat) (Z0 : n0 ≤ h0.size) (O0 : Old Z n0 h0) (S_ad : Sta Z Z.heap "java/lang/StringUTF16" "$assertionsDisabled" "Z" (.int (1 : Int32))) (S_hi : Sta Z Z.heap "java/lang/StringUTF16" "HI_BYTE_SHIFT" "I" (.int (0 : Int32))) (S_lo : Sta Z Z.heap "java/lang/StringUTF16" "LO_BYTE_SHIFT" "I" (.int (8 : Int32))) (S_cs : Sta Z Z.heap "java/lang/String" "COMPACT_STRINGS" "Z" (.int cs)) (hcs : ¬ cs = 0) (hS : own_STR Z h0 a n f) (hc : ∀ x, own_isC (f x)) (hn : n ≤ 6) (hrs0 : own_rs f n K 0) (hK : ¬ mx < Int32.ofNat K) :
    own_Met l Z (⟨"com/example/lease/lease/service/Sizes", "checkCharacters", "(Ljava/lang/String;Ljava/lang/String;I)V"⟩ : MethodName) prog_41_method_2_code 3 none ws ({ frames := 4, cells := 0, slots := 0, locals := 58 } : Room) #[(.ref nm), (.ref a), (.int mx)] h0 (fun v h L => v = none ∧ Fr n0 L ∧ h = h0) := by
  refine own_body (by first | exact plainFor_of_name pn_com_example_lease_lease_service_Sizes | decide +kernel) ?_
  intro p e s m below meth c T0 X0 hx hby hml hret hlk hZ hown hnm e0
  have hown : s.vm.findClass "com/example/lease/lease/service/Sizes" = some m.cls := hown
  have hnm : meth.name = "checkCharacters" := hnm
  have N0 := Fr.nil n0
  rw [ef_6 m nm a mx]
  show own_Go p e below _ T0 (mkF m 0 #[.val (.ref nm), .val (.ref a), .val (.int mx)] [])
  refine own_go (fun t_ k_ => XS.aloadN X0.here hx rfl (hb hby d6_0) rfl rfl k_) ?_
  show own_Go p e below _ T0 (mkF m 1 #[.val (.ref nm), .val (.ref a), .val (.int mx)] [(.ref a)])
  refine own_go (fun t_ k_ => XS.ifnullNo X0.here hx rfl (hb hby d6_1) rfl k_) ?_
  show own_Go p e below _ T0 (mkF m 4 #[.val (.ref nm), .val (.ref a), .val (.int mx)] [])
  obtain ⟨vb, E_a, F_v, ⟨F_c, ⟨gg, V_v⟩, hv⟩ | ⟨F_c, V_v, hn0⟩⟩ := hS
  · show own_Go p e below _ T0 (mkF m 4 #[.val (.ref nm), .val (.ref a), .val (.int mx)] [])
    refine own_go (fun t_ k_ => XS.aloadN X0.here hx rfl (hb hby d6_4) rfl rfl k_) ?_
    show own_Go p e below _ T0 (mkF m 5 #[.val (.ref nm), .val (.ref a), .val (.int mx)] [(.ref a)])
    refine own_go (fun t_ k_ => XS.iconst X0.here hx rfl (hb hby d6_5) k_) ?_
    show own_Go p e below _ T0 (mkF m 6 #[.val (.ref nm), .val (.ref a), .val (.int mx)] [(.int (0 : Int32)), (.ref a)])
    refine own_go (fun t_ k_ => XS.aloadN X0.here hx rfl (hb hby d6_6) rfl rfl k_) ?_
    show own_Go p e below _ T0 (mkF m 7 #[.val (.ref nm), .val (.ref a), .val (.int mx)] [(.ref a), (.int (0 : Int32)), (.ref a)])
    obtain ⟨_, T1, L1, X1, ⟨rfl, N1, e1⟩, st1⟩ := own_callV X0 hx hZ (y := (⟨"java/lang/String", "length", "()I"⟩ : MethodName)) (z := (⟨"java/lang/String", "length", "()I"⟩ : MethodName)) (b := a) (argsL := []) (rest := [(.int (0 : Int32)), (.ref a)]) (Ls := #[.val (.ref nm), .val (.ref a), .val (.int mx)]) hown (own_w hw 35 rfl) (own_w hw 36 rfl) (own_w hw 38 rfl) (notFace_of_selects (args := #[]) (mvT hZ (own_w hw 38 rfl))) (own_w hw 37 rfl) (own_w hw 39 rfl) (own_w hw 7 rfl) (by decide) e0 E_a (rmLe_0 l Z a0 hw [] a vb n gg cs h0 n0 (own_oldge O0) O0 S_cs hcs E_a F_v F_c V_v hn) 2 (by decide) (by decide) (by decide) (by decide) (by rw [hml]; rfl) (lenOf pd_1 rfl) rfl (Nat.le_of_eq rfl) (hb hby d6_7)
    have M1 := Fr.app N0 N1
    refine own_go st1 ?_
    show own_Go p e below _ T1 (mkF m 10 #[.val (.ref nm), .val (.ref a), .val (.int mx)] [(.int (Int32.ofNat n)), (.int (0 : Int32)), (.ref a)])
    obtain ⟨_, T2, L2, X2, ⟨rfl, N2, e2⟩, st2⟩ := own_callV X1 hx hZ (y := (⟨"java/lang/String", "codePointCount", "(II)I"⟩ : MethodName)) (z := (⟨"java/lang/String", "codePointCount", "(II)I"⟩ : MethodName)) (b := a) (argsL := [(.int (0 : Int32)), (.int (Int32.ofNat n))]) (rest := []) (Ls := #[.val (.ref nm), .val (.ref a), .val (.int mx)]) hown (own_w hw 46 rfl) (own_w hw 47 rfl) (own_w hw 49 rfl) (notFace_of_selects (args := #[]) (mvT hZ (own_w hw 49 rfl))) (own_w hw 48 rfl) (own_w hw 50 rfl) (own_w hw 7 rfl) (by decide) e1 E_a (rmCP_0 l Z a0 hw [] a vb n gg cs K f h0 n0 (own_oldge O0) O0 S_cs hcs E_a F_v F_c V_v S_ad S_hi S_lo hn hc hrs0 hv) 0 (by decide) (by decide) (by decide) (by decide) (by rw [hml]; rfl) (lenOf pd_7 rfl) rfl (Nat.le_of_eq rfl) (hb hby d6_10)
    have M2 := Fr.app M1 N2
    refine own_go st2 ?_
    show own_Go p e below _ T2 (mkF m 13 #[.val (.ref nm), .val (.ref a), .val (.int mx)] [(.int (Int32.ofNat K))])
    refine own_go (fun t_ k_ => XS.iloadN X2.here hx rfl (hb hby d6_13) rfl k_) ?_
    show own_Go p e below _ T2 (mkF m 14 #[.val (.ref nm), .val (.ref a), .val (.int mx)] [(.int mx), (.int (Int32.ofNat K))])
    refine own_go (fun t_ k_ => XS.icmpYes X2.here hx rfl (pc0 := 14) (pc' := 28) rfl (hb hby d6_14) rfl (XT.ii_le_t hK) (by decide) (by decide) k_) ?_
    show own_Go p e below _ T2 (mkF m 28 #[.val (.ref nm), .val (.ref a), .val (.int mx)] [])
    refine own_retV X2 hx hlk hret (hb hby d6_28) (by decide) (by decide) ?_
    exact ⟨rfl, M2, e2⟩
  · show own_Go p e below _ T0 (mkF m 4 #[.val (.ref nm), .val (.ref a), .val (.int mx)] [])
    refine own_go (fun t_ k_ => XS.aloadN X0.here hx rfl (hb hby d6_4) rfl rfl k_) ?_
    show own_Go p e below _ T0 (mkF m 5 #[.val (.ref nm), .val (.ref a), .val (.int mx)] [(.ref a)])
    refine own_go (fun t_ k_ => XS.iconst X0.here hx rfl (hb hby d6_5) k_) ?_
    show own_Go p e below _ T0 (mkF m 6 #[.val (.ref nm), .val (.ref a), .val (.int mx)] [(.int (0 : Int32)), (.ref a)])
    refine own_go (fun t_ k_ => XS.aloadN X0.here hx rfl (hb hby d6_6) rfl rfl k_) ?_
    show own_Go p e below _ T0 (mkF m 7 #[.val (.ref nm), .val (.ref a), .val (.int mx)] [(.ref a), (.int (0 : Int32)), (.ref a)])
    obtain ⟨_, T3, L3, X3, ⟨rfl, N3, e3⟩, st3⟩ := own_callV X0 hx hZ (y := (⟨"java/lang/String", "length", "()I"⟩ : MethodName)) (z := (⟨"java/lang/String", "length", "()I"⟩ : MethodName)) (b := a) (argsL := []) (rest := [(.int (0 : Int32)), (.ref a)]) (Ls := #[.val (.ref nm), .val (.ref a), .val (.int mx)]) hown (own_w hw 35 rfl) (own_w hw 36 rfl) (own_w hw 38 rfl) (notFace_of_selects (args := #[]) (mvT hZ (own_w hw 38 rfl))) (own_w hw 37 rfl) (own_w hw 39 rfl) (own_w hw 7 rfl) (by decide) e0 E_a (rmLe_1 l Z a0 hw [] a vb n f cs h0 n0 (own_oldge O0) O0 S_cs hcs E_a F_v F_c V_v hn) 2 (by decide) (by decide) (by decide) (by decide) (by rw [hml]; rfl) (lenOf pd_1 rfl) rfl (Nat.le_of_eq rfl) (hb hby d6_7)
    have M3 := Fr.app N0 N3
    refine own_go st3 ?_
    show own_Go p e below _ T3 (mkF m 10 #[.val (.ref nm), .val (.ref a), .val (.int mx)] [(.int (Int32.ofNat n)), (.int (0 : Int32)), (.ref a)])
    obtain ⟨_, T4, L4, X4, ⟨rfl, N4, e4⟩, st4⟩ := own_callV X3 hx hZ (y := (⟨"java/lang/String", "codePointCount", "(II)I"⟩ : MethodName)) (z := (⟨"java/lang/String", "codePointCount", "(II)I"⟩ : MethodName)) (b := a) (argsL := [(.int (0 : Int32)), (.int (Int32.ofNat n))]) (rest := []) (Ls := #[.val (.ref nm), .val (.ref a), .val (.int mx)]) hown (own_w hw 46 rfl) (own_w hw 47 rfl) (own_w hw 49 rfl) (notFace_of_selects (args := #[]) (mvT hZ (own_w hw 49 rfl))) (own_w hw 48 rfl) (own_w hw 50 rfl) (own_w hw 7 rfl) (by decide) e3 E_a (rmCP_1 l Z a0 hw [] a vb n f cs K  h0 n0 (own_oldge O0) O0 S_cs hcs E_a F_v F_c V_v S_ad S_hi S_lo hn hc hrs0 hn0) 0 (by decide) (by decide) (by decide) (by decide) (by rw [hml]; rfl) (lenOf pd_7 rfl) rfl (Nat.le_of_eq rfl) (hb hby d6_10)
    have M4 := Fr.app M3 N4
    refine own_go st4 ?_
    show own_Go p e below _ T4 (mkF m 13 #[.val (.ref nm), .val (.ref a), .val (.int mx)] [(.int (Int32.ofNat K))])
    refine own_go (fun t_ k_ => XS.iloadN X4.here hx rfl (hb hby d6_13) rfl k_) ?_
    show own_Go p e below _ T4 (mkF m 14 #[.val (.ref nm), .val (.ref a), .val (.int mx)] [(.int mx), (.int (Int32.ofNat K))])
    refine own_go (fun t_ k_ => XS.icmpYes X4.here hx rfl (pc0 := 14) (pc' := 28) rfl (hb hby d6_14) rfl (XT.ii_le_t hK) (by decide) (by decide) k_) ?_
    show own_Go p e below _ T4 (mkF m 28 #[.val (.ref nm), .val (.ref a), .val (.int mx)] [])
    refine own_retV X4 hx hlk hret (hb hby d6_28) (by decide) (by decide) ?_
    exact ⟨rfl, M4, e4⟩
set_option maxRecDepth 65536 in
set_option maxHeartbeats 40000000 in
theorem rmMax (l : Launch) (Z : State) (a0 : Array Value) (hw : ∀ d ∈ tables_1, d.before a0 Z = true) (ws : List Jvm.Cond) (x0 x1 : Int32) (h0 : Heap) (n0 : Nat) (Z0 : n0 ≤ h0.size) :
    own_Met l Z (⟨"java/lang/Math", "max", "(II)I"⟩ : MethodName) jdk_29_method_65_code 2 (some .int) ws ({ frames := 0, cells := 0, slots := 0, locals := 0 } : Room) #[(.int x0), (.int x1)] h0 (fun v h L => (∃ r : Int32, v = some (.int r) ∧ ¬ r < x0) ∧ Fr n0 L ∧ h = h0) := by
  refine own_body (Jvm.Free.JP.mathPlain rfl (by decide +kernel)) ?_
  intro p e s m below meth c T0 X0 hx hby hml hret hlk hZ hown hnm e0
  have hown : s.vm.findClass "java/lang/Math" = some m.cls := hown
  have hnm : meth.name = "max" := hnm
  have N0 := Fr.nil n0
  rw [ef_5 m x0 x1]
  show own_Go p e below _ T0 (mkF m 0 #[.val (.int x0), .val (.int x1)] [])
  refine own_go (fun t_ k_ => XS.iloadN X0.here hx rfl (hb hby d5_0) rfl k_) ?_
  show own_Go p e below _ T0 (mkF m 1 #[.val (.int x0), .val (.int x1)] [(.int x0)])
  refine own_go (fun t_ k_ => XS.iloadN X0.here hx rfl (hb hby d5_1) rfl k_) ?_
  show own_Go p e below _ T0 (mkF m 2 #[.val (.int x0), .val (.int x1)] [(.int x1), (.int x0)])
  by_cases hm : x0 < x1
  · show own_Go p e below _ T0 (mkF m 2 #[.val (.int x0), .val (.int x1)] [(.int x1), (.int x0)])
    refine own_go (fun t_ k_ => XS.icmpYes X0.here hx rfl (pc0 := 2) (pc' := 9) rfl (hb hby d5_2) rfl (XT.ii_lt_t hm) (by decide) (by decide) k_) ?_
    show own_Go p e below _ T0 (mkF m 9 #[.val (.int x0), .val (.int x1)] [])
    refine own_go (fun t_ k_ => XS.iloadN X0.here hx rfl (hb hby d5_9) rfl k_) ?_
    show own_Go p e below _ T0 (mkF m 10 #[.val (.int x0), .val (.int x1)] [(.int x1)])
    refine own_retI X0 hx hlk hret (hb hby d5_10) (by decide) (by decide) ?_
    exact ⟨⟨_, rfl, Int32.lt_asymm hm⟩, N0, e0⟩
  · show own_Go p e below _ T0 (mkF m 2 #[.val (.int x0), .val (.int x1)] [(.int x1), (.int x0)])
    refine own_go (fun t_ k_ => XS.icmpNo X0.here hx rfl (hb hby d5_2) rfl (XT.ii_lt_f hm) k_) ?_
    show own_Go p e below _ T0 (mkF m 5 #[.val (.int x0), .val (.int x1)] [])
    refine own_go (fun t_ k_ => XS.iloadN X0.here hx rfl (hb hby d5_5) rfl k_) ?_
    show own_Go p e below _ T0 (mkF m 6 #[.val (.int x0), .val (.int x1)] [(.int x0)])
    refine own_go (fun t_ k_ => XS.goto X0.here hx rfl (pc0 := 6) (pc' := 10) rfl (hb hby d5_6) (by decide) (by decide) k_) ?_
    show own_Go p e below _ T0 (mkF m 10 #[.val (.int x0), .val (.int x1)] [(.int x0)])
    refine own_retI X0 hx hlk hret (hb hby d5_10) (by decide) (by decide) ?_
    exact ⟨⟨_, rfl, Int32.lt_irrefl⟩, N0, e0⟩
set_option maxRecDepth 65536 in
set_option maxHeartbeats 40000000 in
theorem rmPu (l : Launch) (Z : State) (a0 : Array Value) (hw : ∀ d ∈ tables_1, d.before a0 Z = true) (ws : List Jvm.Cond) (b : Addr) (q : Nat) (f : Nat → Int32) (x2 x3 : Int32) (h0 : Heap) (n0 : Nat) (Z0 : n0 ≤ h0.size) (O0 : Old Z n0 h0) (V_b : own_CA Z h0 b 6 f) (gb : n0 ≤ b) (hq : q + 2 ≤ 6) (hc : ∀ x, own_isC (f x)) :
    own_Met l Z (⟨"com/example/lease/lease/service/SizesCheckCharactersPinLaw", "put", "([CIII)I"⟩ : MethodName) method_2_code 5 (some .int) ws ({ frames := 0, cells := 0, slots := 0, locals := 0 } : Room) #[(.ref b), (.int (Int32.ofNat q)), (.int x2), (.int x3)] h0 (fun v h L => (∃ (q' : Nat) (f' : Nat → Int32), v = some (.int (Int32.ofNat q')) ∧ (own_CA Z h b 6 f' ∧ Keep h0 h [b]) ∧ own_pc f' q q' ∧ (∀ x, x < q → f' x = f x) ∧ ∀ x, own_isC (f' x)) ∧ Fr n0 L) := by
  refine own_body (by first | exact plainFor_of_name pn_com_example_lease_lease_service_SizesCheckCharactersPinLaw | decide +kernel) ?_
  intro p e s m below meth c T0 X0 hx hby hml hret hlk hZ hown hnm e0
  have hown : s.vm.findClass "com/example/lease/lease/service/SizesCheckCharactersPinLaw" = some m.cls := hown
  have hnm : meth.name = "put" := hnm
  have N0 := Fr.nil n0
  rw [ef_13 m b (Int32.ofNat q) x2 x3]
  show own_Go p e below _ T0 (mkF m 0 #[.val (.ref b), .val (.int (Int32.ofNat q)), .val (.int x2), .val (.int x3), .unset] [])
  refine own_go (fun t_ k_ => XS.iloadN X0.here hx rfl (hb hby d13_0) rfl k_) ?_
  show own_Go p e below _ T0 (mkF m 1 #[.val (.ref b), .val (.int (Int32.ofNat q)), .val (.int x2), .val (.int x3), .unset] [(.int x2)])
  refine own_go (fun t_ k_ => XS.iconst X0.here hx rfl (hb hby d13_1) k_) ?_
  show own_Go p e below _ T0 (mkF m 2 #[.val (.ref b), .val (.int (Int32.ofNat q)), .val (.int x2), .val (.int x3), .unset] [(.int (3 : Int32)), (.int x2)])
  refine own_go (fun t_ k_ => XS.iand X0.here hx rfl (hb hby d13_2) rfl k_) ?_
  show own_Go p e below _ T0 (mkF m 3 #[.val (.ref b), .val (.int (Int32.ofNat q)), .val (.int x2), .val (.int x3), .unset] [(.int (x2 &&& (3 : Int32)))])
  refine own_go (fun t_ k_ => XS.istore X0.here hx rfl (hb hby d13_3) rfl (l' := #[.val (.ref b), .val (.int (Int32.ofNat q)), .val (.int x2), .val (.int x3), .val (.int (x2 &&& (3 : Int32)))]) rfl k_) ?_
  show own_Go p e below _ T0 (mkF m 5 #[.val (.ref b), .val (.int (Int32.ofNat q)), .val (.int x2), .val (.int x3), .val (.int (x2 &&& (3 : Int32)))] [])
  refine own_go (fun t_ k_ => XS.iload X0.here hx rfl (hb hby d13_5) rfl k_) ?_
  show own_Go p e below _ T0 (mkF m 7 #[.val (.ref b), .val (.int (Int32.ofNat q)), .val (.int x2), .val (.int x3), .val (.int (x2 &&& (3 : Int32)))] [(.int (x2 &&& (3 : Int32)))])
  by_cases k0 : (x2 &&& (3 : Int32)) = 0
  · show own_Go p e below _ T0 (mkF m 7 #[.val (.ref b), .val (.int (Int32.ofNat q)), .val (.int x2), .val (.int x3), .val (.int (x2 &&& (3 : Int32)))] [(.int (x2 &&& (3 : Int32)))])
    refine own_go (fun t_ k_ => XS.ifNo X0.here hx rfl (hb hby d13_7) rfl (XT.i0_ne_f k0) k_) ?_
    show own_Go p e below _ T0 (mkF m 10 #[.val (.ref b), .val (.int (Int32.ofNat q)), .val (.int x2), .val (.int x3), .val (.int (x2 &&& (3 : Int32)))] [])
    refine own_go (fun t_ k_ => XS.aloadN X0.here hx rfl (hb hby d13_10) rfl rfl k_) ?_
    show own_Go p e below _ T0 (mkF m 11 #[.val (.ref b), .val (.int (Int32.ofNat q)), .val (.int x2), .val (.int x3), .val (.int (x2 &&& (3 : Int32)))] [(.ref b)])
    refine own_go (fun t_ k_ => XS.iloadN X0.here hx rfl (hb hby d13_11) rfl k_) ?_
    show own_Go p e below _ T0 (mkF m 12 #[.val (.ref b), .val (.int (Int32.ofNat q)), .val (.int x2), .val (.int x3), .val (.int (x2 &&& (3 : Int32)))] [(.int (Int32.ofNat q)), (.ref b)])
    refine own_go (fun t_ k_ => XS.iloadN X0.here hx rfl (hb hby d13_12) rfl k_) ?_
    show own_Go p e below _ T0 (mkF m 13 #[.val (.ref b), .val (.int (Int32.ofNat q)), .val (.int x2), .val (.int x3), .val (.int (x2 &&& (3 : Int32)))] [(.int x3), (.int (Int32.ofNat q)), (.ref b)])
    refine own_go (fun t_ k_ => XS.sipush X0.here hx rfl (hb hby d13_13) k_) ?_
    show own_Go p e below _ T0 (mkF m 16 #[.val (.ref b), .val (.int (Int32.ofNat q)), .val (.int x2), .val (.int x3), .val (.int (x2 &&& (3 : Int32)))] [(.int (255 : Int32)), (.int x3), (.int (Int32.ofNat q)), (.ref b)])
    refine own_go (fun t_ k_ => XS.iand X0.here hx rfl (hb hby d13_16) rfl k_) ?_
    show own_Go p e below _ T0 (mkF m 17 #[.val (.ref b), .val (.int (Int32.ofNat q)), .val (.int x2), .val (.int x3), .val (.int (x2 &&& (3 : Int32)))] [(.int (x3 &&& (255 : Int32))), (.int (Int32.ofNat q)), (.ref b)])
    refine own_go (fun t_ k_ => XS.i2c X0.here hx rfl (hb hby d13_17) rfl k_) ?_
    show own_Go p e below _ T0 (mkF m 18 #[.val (.ref b), .val (.int (Int32.ofNat q)), .val (.int x2), .val (.int x3), .val (.int (x2 &&& (3 : Int32)))] [(.int (x3 &&& (255 : Int32)).toUInt32.toUInt16.toUInt32.toInt32), (.int (Int32.ofNat q)), (.ref b)])
    obtain ⟨T1, h1, L1, X1, N1, e1, ⟨sl1, v1, W1⟩, V1, st1⟩ := own_stCA X0 hx hZ e0 V_b (by omega) q (by omega) (y := (x3 &&& (255 : Int32)).toUInt32.toUInt16.toUInt32.toInt32) (own_i2c _) (f' := (fun (x : Nat) => if x = q then (x3 &&& (255 : Int32)).toUInt32.toUInt16.toUInt32.toInt32 else f x)) (fun _ => rfl) N0 gb (Ls := #[.val (.ref b), .val (.int (Int32.ofNat q)), .val (.int x2), .val (.int x3), .val (.int (x2 &&& (3 : Int32)))]) (rest := []) (hb hby d13_18)
    have old1 := O0.wr W1 gb
    have kp1 := (Keep.refl h0 [b]).wr W1 (Or.inl (List.mem_of_getElem? (i := 0) rfl))
    refine own_go st1 ?_
    show own_Go p e below _ T1 (mkF m 19 #[.val (.ref b), .val (.int (Int32.ofNat q)), .val (.int x2), .val (.int x3), .val (.int (x2 &&& (3 : Int32)))] [])
    refine own_go (fun t_ k_ => XS.iloadN X1.here hx rfl (hb hby d13_19) rfl k_) ?_
    show own_Go p e below _ T1 (mkF m 20 #[.val (.ref b), .val (.int (Int32.ofNat q)), .val (.int x2), .val (.int x3), .val (.int (x2 &&& (3 : Int32)))] [(.int (Int32.ofNat q))])
    refine own_go (fun t_ k_ => XS.iconst X1.here hx rfl (hb hby d13_20) k_) ?_
    show own_Go p e below _ T1 (mkF m 21 #[.val (.ref b), .val (.int (Int32.ofNat q)), .val (.int x2), .val (.int x3), .val (.int (x2 &&& (3 : Int32)))] [(.int (1 : Int32)), (.int (Int32.ofNat q))])
    refine own_go (fun t_ k_ => XS.iadd X1.here hx rfl (hb hby d13_21) rfl k_) ?_
    show own_Go p e below _ T1 (mkF m 22 #[.val (.ref b), .val (.int (Int32.ofNat q)), .val (.int x2), .val (.int x3), .val (.int (x2 &&& (3 : Int32)))] [(.int ((Int32.ofNat q) + (1 : Int32)))])
    rw [show ((Int32.ofNat q) + (1 : Int32)) = (Int32.ofNat (q + 1)) from own_oAdd q 1]
    show own_Go p e below _ T1 (mkF m 22 #[.val (.ref b), .val (.int (Int32.ofNat q)), .val (.int x2), .val (.int x3), .val (.int (x2 &&& (3 : Int32)))] [(.int (Int32.ofNat (q + 1)))])
    refine own_retI X1 hx hlk hret (hb hby d13_22) (by decide) (by decide) ?_
    exact ⟨⟨(q + 1), (fun (x : Nat) => if x = q then (x3 &&& (255 : Int32)).toUInt32.toUInt16.toUInt32.toInt32 else f x), rfl, by rw [e1]; exact ⟨V1, kp1⟩, Or.inl ⟨rfl, by show ¬ own_hi (if q = q then _ else _); rw [if_pos rfl]; exact own_k0 _⟩, fun x hx => if_neg (by omega), own_upC hc (own_i2c _)⟩, N1⟩
  · show own_Go p e below _ T0 (mkF m 7 #[.val (.ref b), .val (.int (Int32.ofNat q)), .val (.int x2), .val (.int x3), .val (.int (x2 &&& (3 : Int32)))] [(.int (x2 &&& (3 : Int32)))])
    refine own_go (fun t_ k_ => XS.ifYes X0.here hx rfl (pc0 := 7) (pc' := 23) rfl (hb hby d13_7) rfl (XT.i0_ne_t k0) (by decide) (by decide) k_) ?_
    show own_Go p e below _ T0 (mkF m 23 #[.val (.ref b), .val (.int (Int32.ofNat q)), .val (.int x2), .val (.int x3), .val (.int (x2 &&& (3 : Int32)))] [])
    refine own_go (fun t_ k_ => XS.iload X0.here hx rfl (hb hby d13_23) rfl k_) ?_
    show own_Go p e below _ T0 (mkF m 25 #[.val (.ref b), .val (.int (Int32.ofNat q)), .val (.int x2), .val (.int x3), .val (.int (x2 &&& (3 : Int32)))] [(.int (x2 &&& (3 : Int32)))])
    refine own_go (fun t_ k_ => XS.iconst X0.here hx rfl (hb hby d13_25) k_) ?_
    show own_Go p e below _ T0 (mkF m 26 #[.val (.ref b), .val (.int (Int32.ofNat q)), .val (.int x2), .val (.int x3), .val (.int (x2 &&& (3 : Int32)))] [(.int (1 : Int32)), (.int (x2 &&& (3 : Int32)))])
    by_cases k1 : (x2 &&& (3 : Int32)) = (1 : Int32)
    · show own_Go p e below _ T0 (mkF m 26 #[.val (.ref b), .val (.int (Int32.ofNat q)), .val (.int x2), .val (.int x3), .val (.int (x2 &&& (3 : Int32)))] [(.int (1 : Int32)), (.int (x2 &&& (3 : Int32)))])
      refine own_go (fun t_ k_ => XS.icmpNo X0.here hx rfl (hb hby d13_26) rfl (XT.ii_ne_f k1) k_) ?_
      show own_Go p e below _ T0 (mkF m 29 #[.val (.ref b), .val (.int (Int32.ofNat q)), .val (.int x2), .val (.int x3), .val (.int (x2 &&& (3 : Int32)))] [])
      refine own_go (fun t_ k_ => XS.aloadN X0.here hx rfl (hb hby d13_29) rfl rfl k_) ?_
      show own_Go p e below _ T0 (mkF m 30 #[.val (.ref b), .val (.int (Int32.ofNat q)), .val (.int x2), .val (.int x3), .val (.int (x2 &&& (3 : Int32)))] [(.ref b)])
      refine own_go (fun t_ k_ => XS.iloadN X0.here hx rfl (hb hby d13_30) rfl k_) ?_
      show own_Go p e below _ T0 (mkF m 31 #[.val (.ref b), .val (.int (Int32.ofNat q)), .val (.int x2), .val (.int x3), .val (.int (x2 &&& (3 : Int32)))] [(.int (Int32.ofNat q)), (.ref b)])
      refine own_go (fun t_ k_ => X0.ldcInt hx hown (mvT hZ (own_w hw 79 rfl)) (g := (mkF m 31 #[.val (.ref b), .val (.int (Int32.ofNat q)), .val (.int x2), .val (.int x3), .val (.int (x2 &&& (3 : Int32)))] [(.int (Int32.ofNat q)), (.ref b)])) rfl (hb hby d13_31) t_ k_) ?_
      show own_Go p e below _ T0 (mkF m 33 #[.val (.ref b), .val (.int (Int32.ofNat q)), .val (.int x2), .val (.int x3), .val (.int (x2 &&& (3 : Int32)))] [(.int (55296 : Int32)), (.int (Int32.ofNat q)), (.ref b)])
      refine own_go (fun t_ k_ => XS.iloadN X0.here hx rfl (hb hby d13_33) rfl k_) ?_
      show own_Go p e below _ T0 (mkF m 34 #[.val (.ref b), .val (.int (Int32.ofNat q)), .val (.int x2), .val (.int x3), .val (.int (x2 &&& (3 : Int32)))] [(.int x3), (.int (55296 : Int32)), (.int (Int32.ofNat q)), (.ref b)])
      refine own_go (fun t_ k_ => XS.bipush X0.here hx rfl (hb hby d13_34) k_) ?_
      show own_Go p e below _ T0 (mkF m 36 #[.val (.ref b), .val (.int (Int32.ofNat q)), .val (.int x2), .val (.int x3), .val (.int (x2 &&& (3 : Int32)))] [(.int (10 : Int32)), (.int x3), (.int (55296 : Int32)), (.int (Int32.ofNat q)), (.ref b)])
      refine own_go (fun t_ k_ => XS.iushr X0.here hx rfl (hb hby d13_36) rfl k_) ?_
      show own_Go p e below _ T0 (mkF m 37 #[.val (.ref b), .val (.int (Int32.ofNat q)), .val (.int x2), .val (.int x3), .val (.int (x2 &&& (3 : Int32)))] [(.int ((x3.toUInt32 >>> ((10 : Int32) &&& 31).toUInt32).toInt32)), (.int (55296 : Int32)), (.int (Int32.ofNat q)), (.ref b)])
      refine own_go (fun t_ k_ => XS.sipush X0.here hx rfl (hb hby d13_37) k_) ?_
      show own_Go p e below _ T0 (mkF m 40 #[.val (.ref b), .val (.int (Int32.ofNat q)), .val (.int x2), .val (.int x3), .val (.int (x2 &&& (3 : Int32)))] [(.int (1023 : Int32)), (.int ((x3.toUInt32 >>> ((10 : Int32) &&& 31).toUInt32).toInt32)), (.int (55296 : Int32)), (.int (Int32.ofNat q)), (.ref b)])
      refine own_go (fun t_ k_ => XS.iand X0.here hx rfl (hb hby d13_40) rfl k_) ?_
      show own_Go p e below _ T0 (mkF m 41 #[.val (.ref b), .val (.int (Int32.ofNat q)), .val (.int x2), .val (.int x3), .val (.int (x2 &&& (3 : Int32)))] [(.int (((x3.toUInt32 >>> ((10 : Int32) &&& 31).toUInt32).toInt32) &&& (1023 : Int32))), (.int (55296 : Int32)), (.int (Int32.ofNat q)), (.ref b)])
      refine own_go (fun t_ k_ => XS.ior X0.here hx rfl (hb hby d13_41) rfl k_) ?_
      show own_Go p e below _ T0 (mkF m 42 #[.val (.ref b), .val (.int (Int32.ofNat q)), .val (.int x2), .val (.int x3), .val (.int (x2 &&& (3 : Int32)))] [(.int ((55296 : Int32) ||| (((x3.toUInt32 >>> ((10 : Int32) &&& 31).toUInt32).toInt32) &&& (1023 : Int32)))), (.int (Int32.ofNat q)), (.ref b)])
      refine own_go (fun t_ k_ => XS.i2c X0.here hx rfl (hb hby d13_42) rfl k_) ?_
      show own_Go p e below _ T0 (mkF m 43 #[.val (.ref b), .val (.int (Int32.ofNat q)), .val (.int x2), .val (.int x3), .val (.int (x2 &&& (3 : Int32)))] [(.int ((55296 : Int32) ||| (((x3.toUInt32 >>> ((10 : Int32) &&& 31).toUInt32).toInt32) &&& (1023 : Int32))).toUInt32.toUInt16.toUInt32.toInt32), (.int (Int32.ofNat q)), (.ref b)])
      obtain ⟨T2, h2, L2, X2, N2, e2, ⟨sl2, v2, W2⟩, V2, st2⟩ := own_stCA X0 hx hZ e0 V_b (by omega) q (by omega) (y := ((55296 : Int32) ||| (((x3.toUInt32 >>> ((10 : Int32) &&& 31).toUInt32).toInt32) &&& (1023 : Int32))).toUInt32.toUInt16.toUInt32.toInt32) (own_i2c _) (f' := (fun (x : Nat) => if x = q then ((55296 : Int32) ||| (((x3.toUInt32 >>> ((10 : Int32) &&& 31).toUInt32).toInt32) &&& (1023 : Int32))).toUInt32.toUInt16.toUInt32.toInt32 else f x)) (fun _ => rfl) N0 gb (Ls := #[.val (.ref b), .val (.int (Int32.ofNat q)), .val (.int x2), .val (.int x3), .val (.int (x2 &&& (3 : Int32)))]) (rest := []) (hb hby d13_43)
      have old2 := O0.wr W2 gb
      have kp2 := (Keep.refl h0 [b]).wr W2 (Or.inl (List.mem_of_getElem? (i := 0) rfl))
      refine own_go st2 ?_
      show own_Go p e below _ T2 (mkF m 44 #[.val (.ref b), .val (.int (Int32.ofNat q)), .val (.int x2), .val (.int x3), .val (.int (x2 &&& (3 : Int32)))] [])
      refine own_go (fun t_ k_ => XS.aloadN X2.here hx rfl (hb hby d13_44) rfl rfl k_) ?_
      show own_Go p e below _ T2 (mkF m 45 #[.val (.ref b), .val (.int (Int32.ofNat q)), .val (.int x2), .val (.int x3), .val (.int (x2 &&& (3 : Int32)))] [(.ref b)])
      refine own_go (fun t_ k_ => XS.iloadN X2.here hx rfl (hb hby d13_45) rfl k_) ?_
      show own_Go p e below _ T2 (mkF m 46 #[.val (.ref b), .val (.int (Int32.ofNat q)), .val (.int x2), .val (.int x3), .val (.int (x2 &&& (3 : Int32)))] [(.int (Int32.ofNat q)), (.ref b)])
      refine own_go (fun t_ k_ => XS.iconst X2.here hx rfl (hb hby d13_46) k_) ?_
      show own_Go p e below _ T2 (mkF m 47 #[.val (.ref b), .val (.int (Int32.ofNat q)), .val (.int x2), .val (.int x3), .val (.int (x2 &&& (3 : Int32)))] [(.int (1 : Int32)), (.int (Int32.ofNat q)), (.ref b)])
      refine own_go (fun t_ k_ => XS.iadd X2.here hx rfl (hb hby d13_47) rfl k_) ?_
      show own_Go p e below _ T2 (mkF m 48 #[.val (.ref b), .val (.int (Int32.ofNat q)), .val (.int x2), .val (.int x3), .val (.int (x2 &&& (3 : Int32)))] [(.int ((Int32.ofNat q) + (1 : Int32))), (.ref b)])
      rw [show ((Int32.ofNat q) + (1 : Int32)) = (Int32.ofNat (q + 1)) from own_oAdd q 1]
      show own_Go p e below _ T2 (mkF m 48 #[.val (.ref b), .val (.int (Int32.ofNat q)), .val (.int x2), .val (.int x3), .val (.int (x2 &&& (3 : Int32)))] [(.int (Int32.ofNat (q + 1))), (.ref b)])
      refine own_go (fun t_ k_ => X2.ldcInt hx hown (mvT hZ (own_w hw 80 rfl)) (g := (mkF m 48 #[.val (.ref b), .val (.int (Int32.ofNat q)), .val (.int x2), .val (.int x3), .val (.int (x2 &&& (3 : Int32)))] [(.int (Int32.ofNat (q + 1))), (.ref b)])) rfl (hb hby d13_48) t_ k_) ?_
      show own_Go p e below _ T2 (mkF m 50 #[.val (.ref b), .val (.int (Int32.ofNat q)), .val (.int x2), .val (.int x3), .val (.int (x2 &&& (3 : Int32)))] [(.int (56320 : Int32)), (.int (Int32.ofNat (q + 1))), (.ref b)])
      refine own_go (fun t_ k_ => XS.iloadN X2.here hx rfl (hb hby d13_50) rfl k_) ?_
      show own_Go p e below _ T2 (mkF m 51 #[.val (.ref b), .val (.int (Int32.ofNat q)), .val (.int x2), .val (.int x3), .val (.int (x2 &&& (3 : Int32)))] [(.int x3), (.int (56320 : Int32)), (.int (Int32.ofNat (q + 1))), (.ref b)])
      refine own_go (fun t_ k_ => XS.sipush X2.here hx rfl (hb hby d13_51) k_) ?_
      show own_Go p e below _ T2 (mkF m 54 #[.val (.ref b), .val (.int (Int32.ofNat q)), .val (.int x2), .val (.int x3), .val (.int (x2 &&& (3 : Int32)))] [(.int (1023 : Int32)), (.int x3), (.int (56320 : Int32)), (.int (Int32.ofNat (q + 1))), (.ref b)])
      refine own_go (fun t_ k_ => XS.iand X2.here hx rfl (hb hby d13_54) rfl k_) ?_
      show own_Go p e below _ T2 (mkF m 55 #[.val (.ref b), .val (.int (Int32.ofNat q)), .val (.int x2), .val (.int x3), .val (.int (x2 &&& (3 : Int32)))] [(.int (x3 &&& (1023 : Int32))), (.int (56320 : Int32)), (.int (Int32.ofNat (q + 1))), (.ref b)])
      refine own_go (fun t_ k_ => XS.ior X2.here hx rfl (hb hby d13_55) rfl k_) ?_
      show own_Go p e below _ T2 (mkF m 56 #[.val (.ref b), .val (.int (Int32.ofNat q)), .val (.int x2), .val (.int x3), .val (.int (x2 &&& (3 : Int32)))] [(.int ((56320 : Int32) ||| (x3 &&& (1023 : Int32)))), (.int (Int32.ofNat (q + 1))), (.ref b)])
      refine own_go (fun t_ k_ => XS.i2c X2.here hx rfl (hb hby d13_56) rfl k_) ?_
      show own_Go p e below _ T2 (mkF m 57 #[.val (.ref b), .val (.int (Int32.ofNat q)), .val (.int x2), .val (.int x3), .val (.int (x2 &&& (3 : Int32)))] [(.int ((56320 : Int32) ||| (x3 &&& (1023 : Int32))).toUInt32.toUInt16.toUInt32.toInt32), (.int (Int32.ofNat (q + 1))), (.ref b)])
      obtain ⟨T3, h3, L3, X3, N3, e3, ⟨sl3, v3, W3⟩, V3, st3⟩ := own_stCA X2 hx hZ e2 V2 (by omega) (q + 1) (by omega) (y := ((56320 : Int32) ||| (x3 &&& (1023 : Int32))).toUInt32.toUInt16.toUInt32.toInt32) (own_i2c _) (f' := (fun (x : Nat) => if x = (q + 1) then ((56320 : Int32) ||| (x3 &&& (1023 : Int32))).toUInt32.toUInt16.toUInt32.toInt32 else (fun (x : Nat) => if x = q then ((55296 : Int32) ||| (((x3.toUInt32 >>> ((10 : Int32) &&& 31).toUInt32).toInt32) &&& (1023 : Int32))).toUInt32.toUInt16.toUInt32.toInt32 else f x) x)) (fun _ => rfl) N2 gb (Ls := #[.val (.ref b), .val (.int (Int32.ofNat q)), .val (.int x2), .val (.int x3), .val (.int (x2 &&& (3 : Int32)))]) (rest := []) (hb hby d13_57)
      have old3 := old2.wr W3 gb
      have kp3 := kp2.wr W3 (Or.inl (List.mem_of_getElem? (i := 0) rfl))
      refine own_go st3 ?_
      show own_Go p e below _ T3 (mkF m 58 #[.val (.ref b), .val (.int (Int32.ofNat q)), .val (.int x2), .val (.int x3), .val (.int (x2 &&& (3 : Int32)))] [])
      refine own_go (fun t_ k_ => XS.iloadN X3.here hx rfl (hb hby d13_58) rfl k_) ?_
      show own_Go p e below _ T3 (mkF m 59 #[.val (.ref b), .val (.int (Int32.ofNat q)), .val (.int x2), .val (.int x3), .val (.int (x2 &&& (3 : Int32)))] [(.int (Int32.ofNat q))])
      refine own_go (fun t_ k_ => XS.iconst X3.here hx rfl (hb hby d13_59) k_) ?_
      show own_Go p e below _ T3 (mkF m 60 #[.val (.ref b), .val (.int (Int32.ofNat q)), .val (.int x2), .val (.int x3), .val (.int (x2 &&& (3 : Int32)))] [(.int (2 : Int32)), (.int (Int32.ofNat q))])
      refine own_go (fun t_ k_ => XS.iadd X3.here hx rfl (hb hby d13_60) rfl k_) ?_
      show own_Go p e below _ T3 (mkF m 61 #[.val (.ref b), .val (.int (Int32.ofNat q)), .val (.int x2), .val (.int x3), .val (.int (x2 &&& (3 : Int32)))] [(.int ((Int32.ofNat q) + (2 : Int32)))])
      rw [show ((Int32.ofNat q) + (2 : Int32)) = (Int32.ofNat (q + 2)) from own_oAdd q 2]
      show own_Go p e below _ T3 (mkF m 61 #[.val (.ref b), .val (.int (Int32.ofNat q)), .val (.int x2), .val (.int x3), .val (.int (x2 &&& (3 : Int32)))] [(.int (Int32.ofNat (q + 2)))])
      refine own_retI X3 hx hlk hret (hb hby d13_61) (by decide) (by decide) ?_
      exact ⟨⟨(q + 2), (fun (x : Nat) => if x = (q + 1) then ((56320 : Int32) ||| (x3 &&& (1023 : Int32))).toUInt32.toUInt16.toUInt32.toInt32 else (fun (x : Nat) => if x = q then ((55296 : Int32) ||| (((x3.toUInt32 >>> ((10 : Int32) &&& 31).toUInt32).toInt32) &&& (1023 : Int32))).toUInt32.toUInt16.toUInt32.toInt32 else f x) x), rfl, by rw [e3]; exact ⟨V3, kp3⟩, Or.inr ⟨rfl, by show own_hi (if q = q + 1 then _ else if q = q then _ else f q); rw [if_neg (by omega), if_pos rfl]; exact own_k1 _, by show own_lo (if q + 1 = q + 1 then _ else _); rw [if_pos rfl]; exact own_k2 _⟩, fun x hx => by show (if x = q + 1 then _ else if x = q then _ else f x) = f x; rw [if_neg (by omega), if_neg (by omega)], own_upC (own_upC hc (own_i2c _)) (own_i2c _)⟩, N3⟩
    · show own_Go p e below _ T0 (mkF m 26 #[.val (.ref b), .val (.int (Int32.ofNat q)), .val (.int x2), .val (.int x3), .val (.int (x2 &&& (3 : Int32)))] [(.int (1 : Int32)), (.int (x2 &&& (3 : Int32)))])
      refine own_go (fun t_ k_ => XS.icmpYes X0.here hx rfl (pc0 := 26) (pc' := 62) rfl (hb hby d13_26) rfl (XT.ii_ne_t k1) (by decide) (by decide) k_) ?_
      show own_Go p e below _ T0 (mkF m 62 #[.val (.ref b), .val (.int (Int32.ofNat q)), .val (.int x2), .val (.int x3), .val (.int (x2 &&& (3 : Int32)))] [])
      refine own_go (fun t_ k_ => XS.iload X0.here hx rfl (hb hby d13_62) rfl k_) ?_
      show own_Go p e below _ T0 (mkF m 64 #[.val (.ref b), .val (.int (Int32.ofNat q)), .val (.int x2), .val (.int x3), .val (.int (x2 &&& (3 : Int32)))] [(.int (x2 &&& (3 : Int32)))])
      refine own_go (fun t_ k_ => XS.iconst X0.here hx rfl (hb hby d13_64) k_) ?_
      show own_Go p e below _ T0 (mkF m 65 #[.val (.ref b), .val (.int (Int32.ofNat q)), .val (.int x2), .val (.int x3), .val (.int (x2 &&& (3 : Int32)))] [(.int (2 : Int32)), (.int (x2 &&& (3 : Int32)))])
      by_cases k2 : (x2 &&& (3 : Int32)) = (2 : Int32)
      · show own_Go p e below _ T0 (mkF m 65 #[.val (.ref b), .val (.int (Int32.ofNat q)), .val (.int x2), .val (.int x3), .val (.int (x2 &&& (3 : Int32)))] [(.int (2 : Int32)), (.int (x2 &&& (3 : Int32)))])
        refine own_go (fun t_ k_ => XS.icmpNo X0.here hx rfl (hb hby d13_65) rfl (XT.ii_ne_f k2) k_) ?_
        show own_Go p e below _ T0 (mkF m 68 #[.val (.ref b), .val (.int (Int32.ofNat q)), .val (.int x2), .val (.int x3), .val (.int (x2 &&& (3 : Int32)))] [])
        refine own_go (fun t_ k_ => XS.aloadN X0.here hx rfl (hb hby d13_68) rfl rfl k_) ?_
        show own_Go p e below _ T0 (mkF m 69 #[.val (.ref b), .val (.int (Int32.ofNat q)), .val (.int x2), .val (.int x3), .val (.int (x2 &&& (3 : Int32)))] [(.ref b)])
        refine own_go (fun t_ k_ => XS.iloadN X0.here hx rfl (hb hby d13_69) rfl k_) ?_
        show own_Go p e below _ T0 (mkF m 70 #[.val (.ref b), .val (.int (Int32.ofNat q)), .val (.int x2), .val (.int x3), .val (.int (x2 &&& (3 : Int32)))] [(.int (Int32.ofNat q)), (.ref b)])
        refine own_go (fun t_ k_ => X0.ldcInt hx hown (mvT hZ (own_w hw 80 rfl)) (g := (mkF m 70 #[.val (.ref b), .val (.int (Int32.ofNat q)), .val (.int x2), .val (.int x3), .val (.int (x2 &&& (3 : Int32)))] [(.int (Int32.ofNat q)), (.ref b)])) rfl (hb hby d13_70) t_ k_) ?_
        show own_Go p e below _ T0 (mkF m 72 #[.val (.ref b), .val (.int (Int32.ofNat q)), .val (.int x2), .val (.int x3), .val (.int (x2 &&& (3 : Int32)))] [(.int (56320 : Int32)), (.int (Int32.ofNat q)), (.ref b)])
        refine own_go (fun t_ k_ => XS.iloadN X0.here hx rfl (hb hby d13_72) rfl k_) ?_
        show own_Go p e below _ T0 (mkF m 73 #[.val (.ref b), .val (.int (Int32.ofNat q)), .val (.int x2), .val (.int x3), .val (.int (x2 &&& (3 : Int32)))] [(.int x3), (.int (56320 : Int32)), (.int (Int32.ofNat q)), (.ref b)])
        refine own_go (fun t_ k_ => XS.sipush X0.here hx rfl (hb hby d13_73) k_) ?_
        show own_Go p e below _ T0 (mkF m 76 #[.val (.ref b), .val (.int (Int32.ofNat q)), .val (.int x2), .val (.int x3), .val (.int (x2 &&& (3 : Int32)))] [(.int (1023 : Int32)), (.int x3), (.int (56320 : Int32)), (.int (Int32.ofNat q)), (.ref b)])
        refine own_go (fun t_ k_ => XS.iand X0.here hx rfl (hb hby d13_76) rfl k_) ?_
        show own_Go p e below _ T0 (mkF m 77 #[.val (.ref b), .val (.int (Int32.ofNat q)), .val (.int x2), .val (.int x3), .val (.int (x2 &&& (3 : Int32)))] [(.int (x3 &&& (1023 : Int32))), (.int (56320 : Int32)), (.int (Int32.ofNat q)), (.ref b)])
        refine own_go (fun t_ k_ => XS.ior X0.here hx rfl (hb hby d13_77) rfl k_) ?_
        show own_Go p e below _ T0 (mkF m 78 #[.val (.ref b), .val (.int (Int32.ofNat q)), .val (.int x2), .val (.int x3), .val (.int (x2 &&& (3 : Int32)))] [(.int ((56320 : Int32) ||| (x3 &&& (1023 : Int32)))), (.int (Int32.ofNat q)), (.ref b)])
        refine own_go (fun t_ k_ => XS.i2c X0.here hx rfl (hb hby d13_78) rfl k_) ?_
        show own_Go p e below _ T0 (mkF m 79 #[.val (.ref b), .val (.int (Int32.ofNat q)), .val (.int x2), .val (.int x3), .val (.int (x2 &&& (3 : Int32)))] [(.int ((56320 : Int32) ||| (x3 &&& (1023 : Int32))).toUInt32.toUInt16.toUInt32.toInt32), (.int (Int32.ofNat q)), (.ref b)])
        obtain ⟨T4, h4, L4, X4, N4, e4, ⟨sl4, v4, W4⟩, V4, st4⟩ := own_stCA X0 hx hZ e0 V_b (by omega) q (by omega) (y := ((56320 : Int32) ||| (x3 &&& (1023 : Int32))).toUInt32.toUInt16.toUInt32.toInt32) (own_i2c _) (f' := (fun (x : Nat) => if x = q then ((56320 : Int32) ||| (x3 &&& (1023 : Int32))).toUInt32.toUInt16.toUInt32.toInt32 else f x)) (fun _ => rfl) N0 gb (Ls := #[.val (.ref b), .val (.int (Int32.ofNat q)), .val (.int x2), .val (.int x3), .val (.int (x2 &&& (3 : Int32)))]) (rest := []) (hb hby d13_79)
        have old4 := O0.wr W4 gb
        have kp4 := (Keep.refl h0 [b]).wr W4 (Or.inl (List.mem_of_getElem? (i := 0) rfl))
        refine own_go st4 ?_
        show own_Go p e below _ T4 (mkF m 80 #[.val (.ref b), .val (.int (Int32.ofNat q)), .val (.int x2), .val (.int x3), .val (.int (x2 &&& (3 : Int32)))] [])
        refine own_go (fun t_ k_ => XS.iloadN X4.here hx rfl (hb hby d13_80) rfl k_) ?_
        show own_Go p e below _ T4 (mkF m 81 #[.val (.ref b), .val (.int (Int32.ofNat q)), .val (.int x2), .val (.int x3), .val (.int (x2 &&& (3 : Int32)))] [(.int (Int32.ofNat q))])
        refine own_go (fun t_ k_ => XS.iconst X4.here hx rfl (hb hby d13_81) k_) ?_
        show own_Go p e below _ T4 (mkF m 82 #[.val (.ref b), .val (.int (Int32.ofNat q)), .val (.int x2), .val (.int x3), .val (.int (x2 &&& (3 : Int32)))] [(.int (1 : Int32)), (.int (Int32.ofNat q))])
        refine own_go (fun t_ k_ => XS.iadd X4.here hx rfl (hb hby d13_82) rfl k_) ?_
        show own_Go p e below _ T4 (mkF m 83 #[.val (.ref b), .val (.int (Int32.ofNat q)), .val (.int x2), .val (.int x3), .val (.int (x2 &&& (3 : Int32)))] [(.int ((Int32.ofNat q) + (1 : Int32)))])
        rw [show ((Int32.ofNat q) + (1 : Int32)) = (Int32.ofNat (q + 1)) from own_oAdd q 1]
        show own_Go p e below _ T4 (mkF m 83 #[.val (.ref b), .val (.int (Int32.ofNat q)), .val (.int x2), .val (.int x3), .val (.int (x2 &&& (3 : Int32)))] [(.int (Int32.ofNat (q + 1)))])
        refine own_retI X4 hx hlk hret (hb hby d13_83) (by decide) (by decide) ?_
        exact ⟨⟨(q + 1), (fun (x : Nat) => if x = q then ((56320 : Int32) ||| (x3 &&& (1023 : Int32))).toUInt32.toUInt16.toUInt32.toInt32 else f x), rfl, by rw [e4]; exact ⟨V4, kp4⟩, Or.inl ⟨rfl, by show ¬ own_hi (if q = q then _ else _); rw [if_pos rfl]; exact own_loN (own_k2 _)⟩, fun x hx => if_neg (by omega), own_upC hc (own_i2c _)⟩, N4⟩
      · show own_Go p e below _ T0 (mkF m 65 #[.val (.ref b), .val (.int (Int32.ofNat q)), .val (.int x2), .val (.int x3), .val (.int (x2 &&& (3 : Int32)))] [(.int (2 : Int32)), (.int (x2 &&& (3 : Int32)))])
        refine own_go (fun t_ k_ => XS.icmpYes X0.here hx rfl (pc0 := 65) (pc' := 84) rfl (hb hby d13_65) rfl (XT.ii_ne_t k2) (by decide) (by decide) k_) ?_
        show own_Go p e below _ T0 (mkF m 84 #[.val (.ref b), .val (.int (Int32.ofNat q)), .val (.int x2), .val (.int x3), .val (.int (x2 &&& (3 : Int32)))] [])
        refine own_go (fun t_ k_ => XS.aloadN X0.here hx rfl (hb hby d13_84) rfl rfl k_) ?_
        show own_Go p e below _ T0 (mkF m 85 #[.val (.ref b), .val (.int (Int32.ofNat q)), .val (.int x2), .val (.int x3), .val (.int (x2 &&& (3 : Int32)))] [(.ref b)])
        refine own_go (fun t_ k_ => XS.iloadN X0.here hx rfl (hb hby d13_85) rfl k_) ?_
        show own_Go p e below _ T0 (mkF m 86 #[.val (.ref b), .val (.int (Int32.ofNat q)), .val (.int x2), .val (.int x3), .val (.int (x2 &&& (3 : Int32)))] [(.int (Int32.ofNat q)), (.ref b)])
        refine own_go (fun t_ k_ => X0.ldcInt hx hown (mvT hZ (own_w hw 78 rfl)) (g := (mkF m 86 #[.val (.ref b), .val (.int (Int32.ofNat q)), .val (.int x2), .val (.int x3), .val (.int (x2 &&& (3 : Int32)))] [(.int (Int32.ofNat q)), (.ref b)])) rfl (hb hby d13_86) t_ k_) ?_
        show own_Go p e below _ T0 (mkF m 88 #[.val (.ref b), .val (.int (Int32.ofNat q)), .val (.int x2), .val (.int x3), .val (.int (x2 &&& (3 : Int32)))] [(.int (57344 : Int32)), (.int (Int32.ofNat q)), (.ref b)])
        refine own_go (fun t_ k_ => XS.iloadN X0.here hx rfl (hb hby d13_88) rfl k_) ?_
        show own_Go p e below _ T0 (mkF m 89 #[.val (.ref b), .val (.int (Int32.ofNat q)), .val (.int x2), .val (.int x3), .val (.int (x2 &&& (3 : Int32)))] [(.int x3), (.int (57344 : Int32)), (.int (Int32.ofNat q)), (.ref b)])
        refine own_go (fun t_ k_ => XS.sipush X0.here hx rfl (hb hby d13_89) k_) ?_
        show own_Go p e below _ T0 (mkF m 92 #[.val (.ref b), .val (.int (Int32.ofNat q)), .val (.int x2), .val (.int x3), .val (.int (x2 &&& (3 : Int32)))] [(.int (8191 : Int32)), (.int x3), (.int (57344 : Int32)), (.int (Int32.ofNat q)), (.ref b)])
        refine own_go (fun t_ k_ => XS.iand X0.here hx rfl (hb hby d13_92) rfl k_) ?_
        show own_Go p e below _ T0 (mkF m 93 #[.val (.ref b), .val (.int (Int32.ofNat q)), .val (.int x2), .val (.int x3), .val (.int (x2 &&& (3 : Int32)))] [(.int (x3 &&& (8191 : Int32))), (.int (57344 : Int32)), (.int (Int32.ofNat q)), (.ref b)])
        refine own_go (fun t_ k_ => XS.iadd X0.here hx rfl (hb hby d13_93) rfl k_) ?_
        show own_Go p e below _ T0 (mkF m 94 #[.val (.ref b), .val (.int (Int32.ofNat q)), .val (.int x2), .val (.int x3), .val (.int (x2 &&& (3 : Int32)))] [(.int ((57344 : Int32) + (x3 &&& (8191 : Int32)))), (.int (Int32.ofNat q)), (.ref b)])
        refine own_go (fun t_ k_ => XS.i2c X0.here hx rfl (hb hby d13_94) rfl k_) ?_
        show own_Go p e below _ T0 (mkF m 95 #[.val (.ref b), .val (.int (Int32.ofNat q)), .val (.int x2), .val (.int x3), .val (.int (x2 &&& (3 : Int32)))] [(.int ((57344 : Int32) + (x3 &&& (8191 : Int32))).toUInt32.toUInt16.toUInt32.toInt32), (.int (Int32.ofNat q)), (.ref b)])
        obtain ⟨T5, h5, L5, X5, N5, e5, ⟨sl5, v5, W5⟩, V5, st5⟩ := own_stCA X0 hx hZ e0 V_b (by omega) q (by omega) (y := ((57344 : Int32) + (x3 &&& (8191 : Int32))).toUInt32.toUInt16.toUInt32.toInt32) (own_i2c _) (f' := (fun (x : Nat) => if x = q then ((57344 : Int32) + (x3 &&& (8191 : Int32))).toUInt32.toUInt16.toUInt32.toInt32 else f x)) (fun _ => rfl) N0 gb (Ls := #[.val (.ref b), .val (.int (Int32.ofNat q)), .val (.int x2), .val (.int x3), .val (.int (x2 &&& (3 : Int32)))]) (rest := []) (hb hby d13_95)
        have old5 := O0.wr W5 gb
        have kp5 := (Keep.refl h0 [b]).wr W5 (Or.inl (List.mem_of_getElem? (i := 0) rfl))
        refine own_go st5 ?_
        show own_Go p e below _ T5 (mkF m 96 #[.val (.ref b), .val (.int (Int32.ofNat q)), .val (.int x2), .val (.int x3), .val (.int (x2 &&& (3 : Int32)))] [])
        refine own_go (fun t_ k_ => XS.iloadN X5.here hx rfl (hb hby d13_96) rfl k_) ?_
        show own_Go p e below _ T5 (mkF m 97 #[.val (.ref b), .val (.int (Int32.ofNat q)), .val (.int x2), .val (.int x3), .val (.int (x2 &&& (3 : Int32)))] [(.int (Int32.ofNat q))])
        refine own_go (fun t_ k_ => XS.iconst X5.here hx rfl (hb hby d13_97) k_) ?_
        show own_Go p e below _ T5 (mkF m 98 #[.val (.ref b), .val (.int (Int32.ofNat q)), .val (.int x2), .val (.int x3), .val (.int (x2 &&& (3 : Int32)))] [(.int (1 : Int32)), (.int (Int32.ofNat q))])
        refine own_go (fun t_ k_ => XS.iadd X5.here hx rfl (hb hby d13_98) rfl k_) ?_
        show own_Go p e below _ T5 (mkF m 99 #[.val (.ref b), .val (.int (Int32.ofNat q)), .val (.int x2), .val (.int x3), .val (.int (x2 &&& (3 : Int32)))] [(.int ((Int32.ofNat q) + (1 : Int32)))])
        rw [show ((Int32.ofNat q) + (1 : Int32)) = (Int32.ofNat (q + 1)) from own_oAdd q 1]
        show own_Go p e below _ T5 (mkF m 99 #[.val (.ref b), .val (.int (Int32.ofNat q)), .val (.int x2), .val (.int x3), .val (.int (x2 &&& (3 : Int32)))] [(.int (Int32.ofNat (q + 1)))])
        refine own_retI X5 hx hlk hret (hb hby d13_99) (by decide) (by decide) ?_
        exact ⟨⟨(q + 1), (fun (x : Nat) => if x = q then ((57344 : Int32) + (x3 &&& (8191 : Int32))).toUInt32.toUInt16.toUInt32.toInt32 else f x), rfl, by rw [e5]; exact ⟨V5, kp5⟩, Or.inl ⟨rfl, by show ¬ own_hi (if q = q then _ else _); rw [if_pos rfl]; exact own_k3 _⟩, fun x hx => if_neg (by omega), own_upC hc (own_i2c _)⟩, N5⟩
set_option maxRecDepth 65536 in
set_option maxHeartbeats 40000000 in
theorem rm0 (l : Launch) (Z : State) (a0 : Array Value) (hw : ∀ d ∈ tables_1, d.before a0 Z = true) (ws : List Jvm.Cond) (y0 y1 y2 y3 y4 : Int32) (cs : Int32) (h0 : Heap) (n0 : Nat) (Z0 : n0 ≤ h0.size) (O0 : Old Z n0 h0) (S_ad : Sta Z Z.heap "java/lang/StringUTF16" "$assertionsDisabled" "Z" (.int (1 : Int32))) (S_hi : Sta Z Z.heap "java/lang/StringUTF16" "HI_BYTE_SHIFT" "I" (.int (0 : Int32))) (S_lo : Sta Z Z.heap "java/lang/StringUTF16" "LO_BYTE_SHIFT" "I" (.int (8 : Int32))) (S_cs : Sta Z Z.heap "java/lang/String" "COMPACT_STRINGS" "Z" (.int cs)) (hcs : ¬ cs = 0) (hH : Jvm.Lit.constHeld Z "java/lang/String" 7) (hcw : Jvm.Lit.compactW.before a0 Z = true) :
    own_MetW l Z x code maxLocals ret ws room_1 #[(.int y0), (.int y1), (.int y2), (.int y3), (.int y4)] h0 (fun v h L => v = some (.int 1) ∧ Fr n0 L) := by
  refine own_bodyW (by first | exact plainFor_of_name pn_com_example_lease_lease_service_SizesCheckCharactersPinLaw | decide +kernel) ?_
  intro p e s m below meth c T0 X0 hx hby hml hret hlk hZH hown hnm e0 hs0
  have hZ := hZH.wide
  have hown : s.vm.findClass "com/example/lease/lease/service/SizesCheckCharactersPinLaw" = some m.cls := hown
  have hnm : meth.name = "law" := hnm
  have N0 := Fr.nil n0
  rw [ef_0 m y0 y1 y2 y3 y4]
  show own_Go p e below _ T0 (mkF m 0 #[.val (.int y0), .val (.int y1), .val (.int y2), .val (.int y3), .val (.int y4), .unset, .unset, .unset, .unset, .unset, .unset] [])
  refine own_go (fun t_ k_ => XS.iloadN X0.here hx rfl (hb hby at_0) rfl k_) ?_
  show own_Go p e below _ T0 (mkF m 1 #[.val (.int y0), .val (.int y1), .val (.int y2), .val (.int y3), .val (.int y4), .unset, .unset, .unset, .unset, .unset, .unset] [(.int y0)])
  refine own_go (fun t_ k_ => XS.iconst X0.here hx rfl (hb hby at_1) k_) ?_
  show own_Go p e below _ T0 (mkF m 2 #[.val (.int y0), .val (.int y1), .val (.int y2), .val (.int y3), .val (.int y4), .unset, .unset, .unset, .unset, .unset, .unset] [(.int (3 : Int32)), (.int y0)])
  refine own_go (fun t_ k_ => XS.iand X0.here hx rfl (hb hby at_2) rfl k_) ?_
  show own_Go p e below _ T0 (mkF m 3 #[.val (.int y0), .val (.int y1), .val (.int y2), .val (.int y3), .val (.int y4), .unset, .unset, .unset, .unset, .unset, .unset] [(.int (y0 &&& (3 : Int32)))])
  refine own_go (fun t_ k_ => XS.istore X0.here hx rfl (hb hby at_3) rfl (l' := #[.val (.int y0), .val (.int y1), .val (.int y2), .val (.int y3), .val (.int y4), .val (.int (y0 &&& (3 : Int32))), .unset, .unset, .unset, .unset, .unset]) rfl k_) ?_
  show own_Go p e below _ T0 (mkF m 5 #[.val (.int y0), .val (.int y1), .val (.int y2), .val (.int y3), .val (.int y4), .val (.int (y0 &&& (3 : Int32))), .unset, .unset, .unset, .unset, .unset] [])
  rcases own_and3 y0 with q9 | q9 | q9 | q9
  · rw [q9]
    show own_Go p e below _ T0 (mkF m 5 #[.val (.int y0), .val (.int y1), .val (.int y2), .val (.int y3), .val (.int y4), .val (.int (0 : Int32)), .unset, .unset, .unset, .unset, .unset] [])
    refine own_go (fun t_ k_ => XS.iloadN X0.here hx rfl (hb hby at_5) rfl k_) ?_
    show own_Go p e below _ T0 (mkF m 6 #[.val (.int y0), .val (.int y1), .val (.int y2), .val (.int y3), .val (.int y4), .val (.int (0 : Int32)), .unset, .unset, .unset, .unset, .unset] [(.int y0)])
    refine own_go (fun t_ k_ => XS.sipush X0.here hx rfl (hb hby at_6) k_) ?_
    show own_Go p e below _ T0 (mkF m 9 #[.val (.int y0), .val (.int y1), .val (.int y2), .val (.int y3), .val (.int y4), .val (.int (0 : Int32)), .unset, .unset, .unset, .unset, .unset] [(.int (256 : Int32)), (.int y0)])
    refine own_go (fun t_ k_ => XS.iand X0.here hx rfl (hb hby at_9) rfl k_) ?_
    show own_Go p e below _ T0 (mkF m 10 #[.val (.int y0), .val (.int y1), .val (.int y2), .val (.int y3), .val (.int y4), .val (.int (0 : Int32)), .unset, .unset, .unset, .unset, .unset] [(.int (y0 &&& (256 : Int32)))])
    by_cases hnul : (y0 &&& (256 : Int32)) = 0
    · show own_Go p e below _ T0 (mkF m 10 #[.val (.int y0), .val (.int y1), .val (.int y2), .val (.int y3), .val (.int y4), .val (.int (0 : Int32)), .unset, .unset, .unset, .unset, .unset] [(.int (y0 &&& (256 : Int32)))])
      refine own_go (fun t_ k_ => XS.ifYes X0.here hx rfl (pc0 := 10) (pc' := 17) rfl (hb hby at_10) rfl (XT.i0_eq_t hnul) (by decide) (by decide) k_) ?_
      show own_Go p e below _ T0 (mkF m 17 #[.val (.int y0), .val (.int y1), .val (.int y2), .val (.int y3), .val (.int y4), .val (.int (0 : Int32)), .unset, .unset, .unset, .unset, .unset] [])
      refine own_go (fun t_ k_ => XS.iconst X0.here hx rfl (hb hby at_17) k_) ?_
      show own_Go p e below _ T0 (mkF m 18 #[.val (.int y0), .val (.int y1), .val (.int y2), .val (.int y3), .val (.int y4), .val (.int (0 : Int32)), .unset, .unset, .unset, .unset, .unset] [(.int (0 : Int32))])
      refine own_go (fun t_ k_ => XS.istore X0.here hx rfl (hb hby at_18) rfl (l' := #[.val (.int y0), .val (.int y1), .val (.int y2), .val (.int y3), .val (.int y4), .val (.int (0 : Int32)), .val (.int (0 : Int32)), .unset, .unset, .unset, .unset]) rfl k_) ?_
      show own_Go p e below _ T0 (mkF m 20 #[.val (.int y0), .val (.int y1), .val (.int y2), .val (.int y3), .val (.int y4), .val (.int (0 : Int32)), .val (.int (0 : Int32)), .unset, .unset, .unset, .unset] [])
      refine own_go (fun t_ k_ => XS.bipush X0.here hx rfl (hb hby at_20) k_) ?_
      show own_Go p e below _ T0 (mkF m 22 #[.val (.int y0), .val (.int y1), .val (.int y2), .val (.int y3), .val (.int y4), .val (.int (0 : Int32)), .val (.int (0 : Int32)), .unset, .unset, .unset, .unset] [(.int (6 : Int32))])
      obtain ⟨T1, h1, b1, X1, e1, E1, g1, V1, st1⟩ := own_newCA X0 hx hZ (own_w hw 0 rfl) e0 (Ls := #[.val (.int y0), .val (.int y1), .val (.int y2), .val (.int y3), .val (.int y4), .val (.int (0 : Int32)), .val (.int (0 : Int32)), .unset, .unset, .unset, .unset]) (rest := []) (hb hby at_22) 6 6 (by omega) (by decide) (by decide) (by decide)
      have ge_b1 : n0 ≤ b1 := g1 ▸ own_oldge O0
      have old1 := O0.ext E1
      refine own_go st1 ?_
      show own_Go p e below _ T1 (mkF m 24 #[.val (.int y0), .val (.int y1), .val (.int y2), .val (.int y3), .val (.int y4), .val (.int (0 : Int32)), .val (.int (0 : Int32)), .unset, .unset, .unset, .unset] [(.ref b1)])
      refine own_go (fun t_ k_ => XS.astore X1.here hx rfl (hb hby at_24) rfl rfl (l' := #[.val (.int y0), .val (.int y1), .val (.int y2), .val (.int y3), .val (.int y4), .val (.int (0 : Int32)), .val (.int (0 : Int32)), .val (.ref b1), .unset, .unset, .unset]) rfl k_) ?_
      show own_Go p e below _ T1 (mkF m 26 #[.val (.int y0), .val (.int y1), .val (.int y2), .val (.int y3), .val (.int y4), .val (.int (0 : Int32)), .val (.int (0 : Int32)), .val (.ref b1), .unset, .unset, .unset] [])
      refine own_go (fun t_ k_ => XS.iconst X1.here hx rfl (hb hby at_26) k_) ?_
      show own_Go p e below _ T1 (mkF m 27 #[.val (.int y0), .val (.int y1), .val (.int y2), .val (.int y3), .val (.int y4), .val (.int (0 : Int32)), .val (.int (0 : Int32)), .val (.ref b1), .unset, .unset, .unset] [(.int (0 : Int32))])
      refine own_go (fun t_ k_ => XS.istore X1.here hx rfl (hb hby at_27) rfl (l' := #[.val (.int y0), .val (.int y1), .val (.int y2), .val (.int y3), .val (.int y4), .val (.int (0 : Int32)), .val (.int (0 : Int32)), .val (.ref b1), .val (.int (0 : Int32)), .unset, .unset]) rfl k_) ?_
      show own_Go p e below _ T1 (mkF m 29 #[.val (.int y0), .val (.int y1), .val (.int y2), .val (.int y3), .val (.int y4), .val (.int (0 : Int32)), .val (.int (0 : Int32)), .val (.ref b1), .val (.int (0 : Int32)), .unset, .unset] [])
      refine own_go (fun t_ k_ => XS.iload X1.here hx rfl (hb hby at_29) rfl k_) ?_
      show own_Go p e below _ T1 (mkF m 31 #[.val (.int y0), .val (.int y1), .val (.int y2), .val (.int y3), .val (.int y4), .val (.int (0 : Int32)), .val (.int (0 : Int32)), .val (.ref b1), .val (.int (0 : Int32)), .unset, .unset] [(.int (0 : Int32))])
      refine own_go (fun t_ k_ => XS.ifYes X1.here hx rfl (pc0 := 31) (pc' := 47) rfl (hb hby at_31) rfl (XT.i0_le_t (by decide)) (by decide) (by decide) k_) ?_
      show own_Go p e below _ T1 (mkF m 47 #[.val (.int y0), .val (.int y1), .val (.int y2), .val (.int y3), .val (.int y4), .val (.int (0 : Int32)), .val (.int (0 : Int32)), .val (.ref b1), .val (.int (0 : Int32)), .unset, .unset] [])
      refine own_go (fun t_ k_ => XS.iload X1.here hx rfl (hb hby at_47) rfl k_) ?_
      show own_Go p e below _ T1 (mkF m 49 #[.val (.int y0), .val (.int y1), .val (.int y2), .val (.int y3), .val (.int y4), .val (.int (0 : Int32)), .val (.int (0 : Int32)), .val (.ref b1), .val (.int (0 : Int32)), .unset, .unset] [(.int (0 : Int32))])
      refine own_go (fun t_ k_ => XS.iconst X1.here hx rfl (hb hby at_49) k_) ?_
      show own_Go p e below _ T1 (mkF m 50 #[.val (.int y0), .val (.int y1), .val (.int y2), .val (.int y3), .val (.int y4), .val (.int (0 : Int32)), .val (.int (0 : Int32)), .val (.ref b1), .val (.int (0 : Int32)), .unset, .unset] [(.int (1 : Int32)), (.int (0 : Int32))])
      refine own_go (fun t_ k_ => XS.icmpYes X1.here hx rfl (pc0 := 50) (pc' := 66) rfl (hb hby at_50) rfl (XT.ii_le_t (by decide)) (by decide) (by decide) k_) ?_
      show own_Go p e below _ T1 (mkF m 66 #[.val (.int y0), .val (.int y1), .val (.int y2), .val (.int y3), .val (.int y4), .val (.int (0 : Int32)), .val (.int (0 : Int32)), .val (.ref b1), .val (.int (0 : Int32)), .unset, .unset] [])
      refine own_go (fun t_ k_ => XS.iload X1.here hx rfl (hb hby at_66) rfl k_) ?_
      show own_Go p e below _ T1 (mkF m 68 #[.val (.int y0), .val (.int y1), .val (.int y2), .val (.int y3), .val (.int y4), .val (.int (0 : Int32)), .val (.int (0 : Int32)), .val (.ref b1), .val (.int (0 : Int32)), .unset, .unset] [(.int (0 : Int32))])
      refine own_go (fun t_ k_ => XS.iconst X1.here hx rfl (hb hby at_68) k_) ?_
      show own_Go p e below _ T1 (mkF m 69 #[.val (.int y0), .val (.int y1), .val (.int y2), .val (.int y3), .val (.int y4), .val (.int (0 : Int32)), .val (.int (0 : Int32)), .val (.ref b1), .val (.int (0 : Int32)), .unset, .unset] [(.int (2 : Int32)), (.int (0 : Int32))])
      refine own_go (fun t_ k_ => XS.icmpYes X1.here hx rfl (pc0 := 69) (pc' := 86) rfl (hb hby at_69) rfl (XT.ii_le_t (by decide)) (by decide) (by decide) k_) ?_
      show own_Go p e below _ T1 (mkF m 86 #[.val (.int y0), .val (.int y1), .val (.int y2), .val (.int y3), .val (.int y4), .val (.int (0 : Int32)), .val (.int (0 : Int32)), .val (.ref b1), .val (.int (0 : Int32)), .unset, .unset] [])
      refine own_go (fun t_ k_ => XS.iload X1.here hx rfl (hb hby at_86) rfl k_) ?_
      show own_Go p e below _ T1 (mkF m 88 #[.val (.int y0), .val (.int y1), .val (.int y2), .val (.int y3), .val (.int y4), .val (.int (0 : Int32)), .val (.int (0 : Int32)), .val (.ref b1), .val (.int (0 : Int32)), .unset, .unset] [(.int (0 : Int32))])
      refine own_go (fun t_ k_ => XS.ifYes X1.here hx rfl (pc0 := 88) (pc' := 95) rfl (hb hby at_88) rfl (XT.i0_eq_t (by decide)) (by decide) (by decide) k_) ?_
      show own_Go p e below _ T1 (mkF m 95 #[.val (.int y0), .val (.int y1), .val (.int y2), .val (.int y3), .val (.int y4), .val (.int (0 : Int32)), .val (.int (0 : Int32)), .val (.ref b1), .val (.int (0 : Int32)), .unset, .unset] [])
      refine own_go (fun t_ k_ => XS.aload X1.here hx rfl (hb hby at_95) rfl rfl k_) ?_
      show own_Go p e below _ T1 (mkF m 97 #[.val (.int y0), .val (.int y1), .val (.int y2), .val (.int y3), .val (.int y4), .val (.int (0 : Int32)), .val (.int (0 : Int32)), .val (.ref b1), .val (.int (0 : Int32)), .unset, .unset] [(.ref b1)])
      refine own_go (fun t_ k_ => XS.iload X1.here hx rfl (hb hby at_97) rfl k_) ?_
      show own_Go p e below _ T1 (mkF m 99 #[.val (.int y0), .val (.int y1), .val (.int y2), .val (.int y3), .val (.int y4), .val (.int (0 : Int32)), .val (.int (0 : Int32)), .val (.ref b1), .val (.int (0 : Int32)), .unset, .unset] [(.int (0 : Int32)), (.ref b1)])
      obtain ⟨_, T2, L2, X2, ⟨⟨a2, rfl, str2, old2⟩, N2⟩, hS2, hZ, hown, st2⟩ := own_callSW X1 hx hZH (y := (⟨"com/example/lease/lease/service/SizesCheckCharactersPinLaw", "make", "([CI)Ljava/lang/String;"⟩ : MethodName)) (argsL := [(.ref b1), (.int (0 : Int32))]) (rest := []) (Ls := #[.val (.int y0), .val (.int y1), .val (.int y2), .val (.int y3), .val (.int y4), .val (.int (0 : Int32)), .val (.int (0 : Int32)), .val (.ref b1), .val (.int (0 : Int32)), .unset, .unset]) hown (own_w hw 1 rfl) (own_w hw 2 rfl) (own_w hw 3 rfl) (own_w hw 4 rfl) (by decide) e1 (rmMk l Z a0 hw [] b1 0 (fun (_ : Nat) => (0 : Int32)) cs h1 n0 (own_oldge old1) old1 S_ad S_hi S_lo S_cs hcs hH hcw V1 own_zC (by omega)) 0 (by decide) (by decide) (by decide) (by decide) (by rw [hml]; rfl) (lenOf pd_18 rfl) rfl (Nat.le_of_eq rfl) (hb hby at_99)
      have M2 := Fr.app N0 N2
      refine own_go st2 ?_
      show own_Go p e below _ T2 (mkF m 102 #[.val (.int y0), .val (.int y1), .val (.int y2), .val (.int y3), .val (.int y4), .val (.int (0 : Int32)), .val (.int (0 : Int32)), .val (.ref b1), .val (.int (0 : Int32)), .unset, .unset] [(.ref a2)])
      refine own_go (fun t_ k_ => XS.astore X2.here hx rfl (hb hby at_102) rfl rfl (l' := #[.val (.int y0), .val (.int y1), .val (.int y2), .val (.int y3), .val (.int y4), .val (.int (0 : Int32)), .val (.int (0 : Int32)), .val (.ref b1), .val (.int (0 : Int32)), .val (.ref a2), .unset]) rfl k_) ?_
      show own_Go p e below _ T2 (mkF m 104 #[.val (.int y0), .val (.int y1), .val (.int y2), .val (.int y3), .val (.int y4), .val (.int (0 : Int32)), .val (.int (0 : Int32)), .val (.ref b1), .val (.int (0 : Int32)), .val (.ref a2), .unset] [])
      refine own_go (fun t_ k_ => XS.iload X2.here hx rfl (hb hby at_104) rfl k_) ?_
      show own_Go p e below _ T2 (mkF m 106 #[.val (.int y0), .val (.int y1), .val (.int y2), .val (.int y3), .val (.int y4), .val (.int (0 : Int32)), .val (.int (0 : Int32)), .val (.ref b1), .val (.int (0 : Int32)), .val (.ref a2), .unset] [(.int (0 : Int32))])
      refine own_go (fun t_ k_ => XS.ifYes X2.here hx rfl (pc0 := 106) (pc' := 114) rfl (hb hby at_106) rfl (XT.i0_eq_t (by decide)) (by decide) (by decide) k_) ?_
      show own_Go p e below _ T2 (mkF m 114 #[.val (.int y0), .val (.int y1), .val (.int y2), .val (.int y3), .val (.int y4), .val (.int (0 : Int32)), .val (.int (0 : Int32)), .val (.ref b1), .val (.int (0 : Int32)), .val (.ref a2), .unset] [])
      refine own_go (fun t_ k_ => XS.iload X2.here hx rfl (hb hby at_114) rfl k_) ?_
      show own_Go p e below _ T2 (mkF m 116 #[.val (.int y0), .val (.int y1), .val (.int y2), .val (.int y3), .val (.int y4), .val (.int (0 : Int32)), .val (.int (0 : Int32)), .val (.ref b1), .val (.int (0 : Int32)), .val (.ref a2), .unset] [(.int (0 : Int32))])
      refine own_go (fun t_ k_ => XS.iload X2.here hx rfl (hb hby at_116) rfl k_) ?_
      show own_Go p e below _ T2 (mkF m 118 #[.val (.int y0), .val (.int y1), .val (.int y2), .val (.int y3), .val (.int y4), .val (.int (0 : Int32)), .val (.int (0 : Int32)), .val (.ref b1), .val (.int (0 : Int32)), .val (.ref a2), .unset] [(.int y4), (.int (0 : Int32))])
      obtain ⟨_, T3, L3, X3, ⟨⟨mx3, rfl, hK3⟩, N3, e3⟩, st3⟩ := own_callS X2 hx hZ (y := (⟨"java/lang/Math", "max", "(II)I"⟩ : MethodName)) (argsL := [(.int (0 : Int32)), (.int y4)]) (rest := []) (Ls := #[.val (.int y0), .val (.int y1), .val (.int y2), .val (.int y3), .val (.int y4), .val (.int (0 : Int32)), .val (.int (0 : Int32)), .val (.ref b1), .val (.int (0 : Int32)), .val (.ref a2), .unset]) hown (own_w hw 26 rfl) (own_w hw 27 rfl) (own_w hw 28 rfl) (own_w hw 29 rfl) (by decide) rfl (rmMax l Z a0 hw [] (0 : Int32) y4 T2.heap n0 (own_oldge old2)) 0 (by decide) (by decide) (by decide) (by decide) (by rw [hml]; rfl) (lenOf pd_7 rfl) rfl (Nat.le_of_eq rfl) (hb hby at_118)
      have M3 := Fr.app M2 N3
      refine own_go st3 ?_
      show own_Go p e below _ T3 (mkF m 121 #[.val (.int y0), .val (.int y1), .val (.int y2), .val (.int y3), .val (.int y4), .val (.int (0 : Int32)), .val (.int (0 : Int32)), .val (.ref b1), .val (.int (0 : Int32)), .val (.ref a2), .unset] [(.int mx3)])
      refine own_go (fun t_ k_ => XS.istore X3.here hx rfl (hb hby at_121) rfl (l' := #[.val (.int y0), .val (.int y1), .val (.int y2), .val (.int y3), .val (.int y4), .val (.int (0 : Int32)), .val (.int (0 : Int32)), .val (.ref b1), .val (.int (0 : Int32)), .val (.ref a2), .val (.int mx3)]) rfl k_) ?_
      show own_Go p e below _ T3 (mkF m 123 #[.val (.int y0), .val (.int y1), .val (.int y2), .val (.int y3), .val (.int y4), .val (.int (0 : Int32)), .val (.int (0 : Int32)), .val (.ref b1), .val (.int (0 : Int32)), .val (.ref a2), .val (.int mx3)] [])
      obtain ⟨lt4, T4, h4, k4, X4, e4, E4, hS4, hk4, hZ, hown, st4⟩ := own_ldcF X3 hx hZ hown (own_w hw 30 rfl) (own_str hw) e3 hS2 (Nat.le_refl _) (Ls := #[.val (.int y0), .val (.int y1), .val (.int y2), .val (.int y3), .val (.int y4), .val (.int (0 : Int32)), .val (.int (0 : Int32)), .val (.ref b1), .val (.int (0 : Int32)), .val (.ref a2), .val (.int mx3)]) (rest := []) (hb hby at_123) 4 (by decide) (by decide) (by decide) (by decide)
      have old4 := old2.ext E4
      have str_4 := str2.ext E4
      refine own_go st4 ?_
      show own_Go p e below _ T4 (mkF m 125 #[.val (.int y0), .val (.int y1), .val (.int y2), .val (.int y3), .val (.int y4), .val (.int (0 : Int32)), .val (.int (0 : Int32)), .val (.ref b1), .val (.int (0 : Int32)), .val (.ref a2), .val (.int mx3)] [(.ref lt4)])
      refine own_go (fun t_ k_ => XS.aload X4.here hx rfl (hb hby at_125) rfl rfl k_) ?_
      show own_Go p e below _ T4 (mkF m 127 #[.val (.int y0), .val (.int y1), .val (.int y2), .val (.int y3), .val (.int y4), .val (.int (0 : Int32)), .val (.int (0 : Int32)), .val (.ref b1), .val (.int (0 : Int32)), .val (.ref a2), .val (.int mx3)] [(.ref a2), (.ref lt4)])
      refine own_go (fun t_ k_ => XS.iload X4.here hx rfl (hb hby at_127) rfl k_) ?_
      show own_Go p e below _ T4 (mkF m 129 #[.val (.int y0), .val (.int y1), .val (.int y2), .val (.int y3), .val (.int y4), .val (.int (0 : Int32)), .val (.int (0 : Int32)), .val (.ref b1), .val (.int (0 : Int32)), .val (.ref a2), .val (.int mx3)] [(.int mx3), (.ref a2), (.ref lt4)])
      obtain ⟨_, T5, L5, X5, ⟨rfl, N5, e5⟩, st5⟩ := own_callS X4 hx hZ (y := (⟨"com/example/lease/lease/service/Sizes", "checkCharacters", "(Ljava/lang/String;Ljava/lang/String;I)V"⟩ : MethodName)) (argsL := [(.ref lt4), (.ref a2), (.int mx3)]) (rest := []) (Ls := #[.val (.int y0), .val (.int y1), .val (.int y2), .val (.int y3), .val (.int y4), .val (.int (0 : Int32)), .val (.int (0 : Int32)), .val (.ref b1), .val (.int (0 : Int32)), .val (.ref a2), .val (.int mx3)]) hown (own_w hw 31 rfl) (own_w hw 32 rfl) (own_w hw 33 rfl) (own_w hw 34 rfl) (by decide) e4 (rmCk l Z a0 hw [] lt4 a2 mx3 0 0 (fun (_ : Nat) => (0 : Int32)) cs h4 n0 (own_oldge old4) old4 S_ad S_hi S_lo S_cs hcs str_4 own_zC (by omega) own_rs0 hK3) 0 (by decide) (by decide) (by decide) (by decide) (by rw [hml]; rfl) (lenOf pd_11 rfl) rfl (Nat.le_of_eq rfl) (hb hby at_129)
      have M5 := Fr.app M3 N5
      refine own_go st5 ?_
      show own_Go p e below _ T5 (mkF m 132 #[.val (.int y0), .val (.int y1), .val (.int y2), .val (.int y3), .val (.int y4), .val (.int (0 : Int32)), .val (.int (0 : Int32)), .val (.ref b1), .val (.int (0 : Int32)), .val (.ref a2), .val (.int mx3)] [])
      refine own_go (fun t_ k_ => XS.iconst X5.here hx rfl (hb hby at_132) k_) ?_
      show own_Go p e below _ T5 (mkF m 133 #[.val (.int y0), .val (.int y1), .val (.int y2), .val (.int y3), .val (.int y4), .val (.int (0 : Int32)), .val (.int (0 : Int32)), .val (.ref b1), .val (.int (0 : Int32)), .val (.ref a2), .val (.int mx3)] [(.int (1 : Int32))])
      refine own_retZW X5 hS4 (by rw [e5]; exact hk4) hx hlk hret (hb hby at_133) (Or.inr rfl) (by decide) (by decide) ?_
      exact ⟨rfl, M5⟩
    · show own_Go p e below _ T0 (mkF m 10 #[.val (.int y0), .val (.int y1), .val (.int y2), .val (.int y3), .val (.int y4), .val (.int (0 : Int32)), .unset, .unset, .unset, .unset, .unset] [(.int (y0 &&& (256 : Int32)))])
      refine own_go (fun t_ k_ => XS.ifNo X0.here hx rfl (hb hby at_10) rfl (XT.i0_eq_f hnul) k_) ?_
      show own_Go p e below _ T0 (mkF m 13 #[.val (.int y0), .val (.int y1), .val (.int y2), .val (.int y3), .val (.int y4), .val (.int (0 : Int32)), .unset, .unset, .unset, .unset, .unset] [])
      refine own_go (fun t_ k_ => XS.iconst X0.here hx rfl (hb hby at_13) k_) ?_
      show own_Go p e below _ T0 (mkF m 14 #[.val (.int y0), .val (.int y1), .val (.int y2), .val (.int y3), .val (.int y4), .val (.int (0 : Int32)), .unset, .unset, .unset, .unset, .unset] [(.int (1 : Int32))])
      refine own_go (fun t_ k_ => XS.goto X0.here hx rfl (pc0 := 14) (pc' := 18) rfl (hb hby at_14) (by decide) (by decide) k_) ?_
      show own_Go p e below _ T0 (mkF m 18 #[.val (.int y0), .val (.int y1), .val (.int y2), .val (.int y3), .val (.int y4), .val (.int (0 : Int32)), .unset, .unset, .unset, .unset, .unset] [(.int (1 : Int32))])
      refine own_go (fun t_ k_ => XS.istore X0.here hx rfl (hb hby at_18) rfl (l' := #[.val (.int y0), .val (.int y1), .val (.int y2), .val (.int y3), .val (.int y4), .val (.int (0 : Int32)), .val (.int (1 : Int32)), .unset, .unset, .unset, .unset]) rfl k_) ?_
      show own_Go p e below _ T0 (mkF m 20 #[.val (.int y0), .val (.int y1), .val (.int y2), .val (.int y3), .val (.int y4), .val (.int (0 : Int32)), .val (.int (1 : Int32)), .unset, .unset, .unset, .unset] [])
      refine own_go (fun t_ k_ => XS.bipush X0.here hx rfl (hb hby at_20) k_) ?_
      show own_Go p e below _ T0 (mkF m 22 #[.val (.int y0), .val (.int y1), .val (.int y2), .val (.int y3), .val (.int y4), .val (.int (0 : Int32)), .val (.int (1 : Int32)), .unset, .unset, .unset, .unset] [(.int (6 : Int32))])
      obtain ⟨T6, h6, b6, X6, e6, E6, g6, V6, st6⟩ := own_newCA X0 hx hZ (own_w hw 0 rfl) e0 (Ls := #[.val (.int y0), .val (.int y1), .val (.int y2), .val (.int y3), .val (.int y4), .val (.int (0 : Int32)), .val (.int (1 : Int32)), .unset, .unset, .unset, .unset]) (rest := []) (hb hby at_22) 6 6 (by omega) (by decide) (by decide) (by decide)
      have ge_b6 : n0 ≤ b6 := g6 ▸ own_oldge O0
      have old6 := O0.ext E6
      refine own_go st6 ?_
      show own_Go p e below _ T6 (mkF m 24 #[.val (.int y0), .val (.int y1), .val (.int y2), .val (.int y3), .val (.int y4), .val (.int (0 : Int32)), .val (.int (1 : Int32)), .unset, .unset, .unset, .unset] [(.ref b6)])
      refine own_go (fun t_ k_ => XS.astore X6.here hx rfl (hb hby at_24) rfl rfl (l' := #[.val (.int y0), .val (.int y1), .val (.int y2), .val (.int y3), .val (.int y4), .val (.int (0 : Int32)), .val (.int (1 : Int32)), .val (.ref b6), .unset, .unset, .unset]) rfl k_) ?_
      show own_Go p e below _ T6 (mkF m 26 #[.val (.int y0), .val (.int y1), .val (.int y2), .val (.int y3), .val (.int y4), .val (.int (0 : Int32)), .val (.int (1 : Int32)), .val (.ref b6), .unset, .unset, .unset] [])
      refine own_go (fun t_ k_ => XS.iconst X6.here hx rfl (hb hby at_26) k_) ?_
      show own_Go p e below _ T6 (mkF m 27 #[.val (.int y0), .val (.int y1), .val (.int y2), .val (.int y3), .val (.int y4), .val (.int (0 : Int32)), .val (.int (1 : Int32)), .val (.ref b6), .unset, .unset, .unset] [(.int (0 : Int32))])
      refine own_go (fun t_ k_ => XS.istore X6.here hx rfl (hb hby at_27) rfl (l' := #[.val (.int y0), .val (.int y1), .val (.int y2), .val (.int y3), .val (.int y4), .val (.int (0 : Int32)), .val (.int (1 : Int32)), .val (.ref b6), .val (.int (0 : Int32)), .unset, .unset]) rfl k_) ?_
      show own_Go p e below _ T6 (mkF m 29 #[.val (.int y0), .val (.int y1), .val (.int y2), .val (.int y3), .val (.int y4), .val (.int (0 : Int32)), .val (.int (1 : Int32)), .val (.ref b6), .val (.int (0 : Int32)), .unset, .unset] [])
      refine own_go (fun t_ k_ => XS.iload X6.here hx rfl (hb hby at_29) rfl k_) ?_
      show own_Go p e below _ T6 (mkF m 31 #[.val (.int y0), .val (.int y1), .val (.int y2), .val (.int y3), .val (.int y4), .val (.int (0 : Int32)), .val (.int (1 : Int32)), .val (.ref b6), .val (.int (0 : Int32)), .unset, .unset] [(.int (0 : Int32))])
      refine own_go (fun t_ k_ => XS.ifYes X6.here hx rfl (pc0 := 31) (pc' := 47) rfl (hb hby at_31) rfl (XT.i0_le_t (by decide)) (by decide) (by decide) k_) ?_
      show own_Go p e below _ T6 (mkF m 47 #[.val (.int y0), .val (.int y1), .val (.int y2), .val (.int y3), .val (.int y4), .val (.int (0 : Int32)), .val (.int (1 : Int32)), .val (.ref b6), .val (.int (0 : Int32)), .unset, .unset] [])
      refine own_go (fun t_ k_ => XS.iload X6.here hx rfl (hb hby at_47) rfl k_) ?_
      show own_Go p e below _ T6 (mkF m 49 #[.val (.int y0), .val (.int y1), .val (.int y2), .val (.int y3), .val (.int y4), .val (.int (0 : Int32)), .val (.int (1 : Int32)), .val (.ref b6), .val (.int (0 : Int32)), .unset, .unset] [(.int (0 : Int32))])
      refine own_go (fun t_ k_ => XS.iconst X6.here hx rfl (hb hby at_49) k_) ?_
      show own_Go p e below _ T6 (mkF m 50 #[.val (.int y0), .val (.int y1), .val (.int y2), .val (.int y3), .val (.int y4), .val (.int (0 : Int32)), .val (.int (1 : Int32)), .val (.ref b6), .val (.int (0 : Int32)), .unset, .unset] [(.int (1 : Int32)), (.int (0 : Int32))])
      refine own_go (fun t_ k_ => XS.icmpYes X6.here hx rfl (pc0 := 50) (pc' := 66) rfl (hb hby at_50) rfl (XT.ii_le_t (by decide)) (by decide) (by decide) k_) ?_
      show own_Go p e below _ T6 (mkF m 66 #[.val (.int y0), .val (.int y1), .val (.int y2), .val (.int y3), .val (.int y4), .val (.int (0 : Int32)), .val (.int (1 : Int32)), .val (.ref b6), .val (.int (0 : Int32)), .unset, .unset] [])
      refine own_go (fun t_ k_ => XS.iload X6.here hx rfl (hb hby at_66) rfl k_) ?_
      show own_Go p e below _ T6 (mkF m 68 #[.val (.int y0), .val (.int y1), .val (.int y2), .val (.int y3), .val (.int y4), .val (.int (0 : Int32)), .val (.int (1 : Int32)), .val (.ref b6), .val (.int (0 : Int32)), .unset, .unset] [(.int (0 : Int32))])
      refine own_go (fun t_ k_ => XS.iconst X6.here hx rfl (hb hby at_68) k_) ?_
      show own_Go p e below _ T6 (mkF m 69 #[.val (.int y0), .val (.int y1), .val (.int y2), .val (.int y3), .val (.int y4), .val (.int (0 : Int32)), .val (.int (1 : Int32)), .val (.ref b6), .val (.int (0 : Int32)), .unset, .unset] [(.int (2 : Int32)), (.int (0 : Int32))])
      refine own_go (fun t_ k_ => XS.icmpYes X6.here hx rfl (pc0 := 69) (pc' := 86) rfl (hb hby at_69) rfl (XT.ii_le_t (by decide)) (by decide) (by decide) k_) ?_
      show own_Go p e below _ T6 (mkF m 86 #[.val (.int y0), .val (.int y1), .val (.int y2), .val (.int y3), .val (.int y4), .val (.int (0 : Int32)), .val (.int (1 : Int32)), .val (.ref b6), .val (.int (0 : Int32)), .unset, .unset] [])
      refine own_go (fun t_ k_ => XS.iload X6.here hx rfl (hb hby at_86) rfl k_) ?_
      show own_Go p e below _ T6 (mkF m 88 #[.val (.int y0), .val (.int y1), .val (.int y2), .val (.int y3), .val (.int y4), .val (.int (0 : Int32)), .val (.int (1 : Int32)), .val (.ref b6), .val (.int (0 : Int32)), .unset, .unset] [(.int (1 : Int32))])
      refine own_go (fun t_ k_ => XS.ifNo X6.here hx rfl (hb hby at_88) rfl (XT.i0_eq_f (by decide)) k_) ?_
      show own_Go p e below _ T6 (mkF m 91 #[.val (.int y0), .val (.int y1), .val (.int y2), .val (.int y3), .val (.int y4), .val (.int (0 : Int32)), .val (.int (1 : Int32)), .val (.ref b6), .val (.int (0 : Int32)), .unset, .unset] [])
      refine own_go (fun t_ k_ => XS.aconstNull X6.here hx rfl (hb hby at_91) k_) ?_
      show own_Go p e below _ T6 (mkF m 92 #[.val (.int y0), .val (.int y1), .val (.int y2), .val (.int y3), .val (.int y4), .val (.int (0 : Int32)), .val (.int (1 : Int32)), .val (.ref b6), .val (.int (0 : Int32)), .unset, .unset] [.null])
      refine own_go (fun t_ k_ => XS.goto X6.here hx rfl (pc0 := 92) (pc' := 102) rfl (hb hby at_92) (by decide) (by decide) k_) ?_
      show own_Go p e below _ T6 (mkF m 102 #[.val (.int y0), .val (.int y1), .val (.int y2), .val (.int y3), .val (.int y4), .val (.int (0 : Int32)), .val (.int (1 : Int32)), .val (.ref b6), .val (.int (0 : Int32)), .unset, .unset] [.null])
      refine own_go (fun t_ k_ => XS.astore X6.here hx rfl (hb hby at_102) rfl rfl (l' := #[.val (.int y0), .val (.int y1), .val (.int y2), .val (.int y3), .val (.int y4), .val (.int (0 : Int32)), .val (.int (1 : Int32)), .val (.ref b6), .val (.int (0 : Int32)), .val .null, .unset]) rfl k_) ?_
      show own_Go p e below _ T6 (mkF m 104 #[.val (.int y0), .val (.int y1), .val (.int y2), .val (.int y3), .val (.int y4), .val (.int (0 : Int32)), .val (.int (1 : Int32)), .val (.ref b6), .val (.int (0 : Int32)), .val .null, .unset] [])
      refine own_go (fun t_ k_ => XS.iload X6.here hx rfl (hb hby at_104) rfl k_) ?_
      show own_Go p e below _ T6 (mkF m 106 #[.val (.int y0), .val (.int y1), .val (.int y2), .val (.int y3), .val (.int y4), .val (.int (0 : Int32)), .val (.int (1 : Int32)), .val (.ref b6), .val (.int (0 : Int32)), .val .null, .unset] [(.int (1 : Int32))])
      refine own_go (fun t_ k_ => XS.ifNo X6.here hx rfl (hb hby at_106) rfl (XT.i0_eq_f (by decide)) k_) ?_
      show own_Go p e below _ T6 (mkF m 109 #[.val (.int y0), .val (.int y1), .val (.int y2), .val (.int y3), .val (.int y4), .val (.int (0 : Int32)), .val (.int (1 : Int32)), .val (.ref b6), .val (.int (0 : Int32)), .val .null, .unset] [])
      refine own_go (fun t_ k_ => XS.iload X6.here hx rfl (hb hby at_109) rfl k_) ?_
      show own_Go p e below _ T6 (mkF m 111 #[.val (.int y0), .val (.int y1), .val (.int y2), .val (.int y3), .val (.int y4), .val (.int (0 : Int32)), .val (.int (1 : Int32)), .val (.ref b6), .val (.int (0 : Int32)), .val .null, .unset] [(.int y4)])
      refine own_go (fun t_ k_ => XS.goto X6.here hx rfl (pc0 := 111) (pc' := 121) rfl (hb hby at_111) (by decide) (by decide) k_) ?_
      show own_Go p e below _ T6 (mkF m 121 #[.val (.int y0), .val (.int y1), .val (.int y2), .val (.int y3), .val (.int y4), .val (.int (0 : Int32)), .val (.int (1 : Int32)), .val (.ref b6), .val (.int (0 : Int32)), .val .null, .unset] [(.int y4)])
      refine own_go (fun t_ k_ => XS.istore X6.here hx rfl (hb hby at_121) rfl (l' := #[.val (.int y0), .val (.int y1), .val (.int y2), .val (.int y3), .val (.int y4), .val (.int (0 : Int32)), .val (.int (1 : Int32)), .val (.ref b6), .val (.int (0 : Int32)), .val .null, .val (.int y4)]) rfl k_) ?_
      show own_Go p e below _ T6 (mkF m 123 #[.val (.int y0), .val (.int y1), .val (.int y2), .val (.int y3), .val (.int y4), .val (.int (0 : Int32)), .val (.int (1 : Int32)), .val (.ref b6), .val (.int (0 : Int32)), .val .null, .val (.int y4)] [])
      obtain ⟨lt7, T7, h7, k7, X7, e7, E7, hS7, hk7, hZ, hown, st7⟩ := own_ldcF (own_wd X6) hx hZ hown (own_w hw 30 rfl) (own_str hw) e6 (own_wS s h6.size) (Nat.le_refl _) (Ls := #[.val (.int y0), .val (.int y1), .val (.int y2), .val (.int y3), .val (.int y4), .val (.int (0 : Int32)), .val (.int (1 : Int32)), .val (.ref b6), .val (.int (0 : Int32)), .val .null, .val (.int y4)]) (rest := []) (hb hby at_123) 4 (by decide) (by decide) (by decide) (by decide)
      have old7 := old6.ext E7
      refine own_go st7 ?_
      show own_Go p e below _ T7 (mkF m 125 #[.val (.int y0), .val (.int y1), .val (.int y2), .val (.int y3), .val (.int y4), .val (.int (0 : Int32)), .val (.int (1 : Int32)), .val (.ref b6), .val (.int (0 : Int32)), .val .null, .val (.int y4)] [(.ref lt7)])
      refine own_go (fun t_ k_ => XS.aload X7.here hx rfl (hb hby at_125) rfl rfl k_) ?_
      show own_Go p e below _ T7 (mkF m 127 #[.val (.int y0), .val (.int y1), .val (.int y2), .val (.int y3), .val (.int y4), .val (.int (0 : Int32)), .val (.int (1 : Int32)), .val (.ref b6), .val (.int (0 : Int32)), .val .null, .val (.int y4)] [.null, (.ref lt7)])
      refine own_go (fun t_ k_ => XS.iload X7.here hx rfl (hb hby at_127) rfl k_) ?_
      show own_Go p e below _ T7 (mkF m 129 #[.val (.int y0), .val (.int y1), .val (.int y2), .val (.int y3), .val (.int y4), .val (.int (0 : Int32)), .val (.int (1 : Int32)), .val (.ref b6), .val (.int (0 : Int32)), .val .null, .val (.int y4)] [(.int y4), .null, (.ref lt7)])
      obtain ⟨_, T8, L8, X8, ⟨rfl, N8, e8⟩, st8⟩ := own_callS X7 hx hZ (y := (⟨"com/example/lease/lease/service/Sizes", "checkCharacters", "(Ljava/lang/String;Ljava/lang/String;I)V"⟩ : MethodName)) (argsL := [(.ref lt7), .null, (.int y4)]) (rest := []) (Ls := #[.val (.int y0), .val (.int y1), .val (.int y2), .val (.int y3), .val (.int y4), .val (.int (0 : Int32)), .val (.int (1 : Int32)), .val (.ref b6), .val (.int (0 : Int32)), .val .null, .val (.int y4)]) hown (own_w hw 31 rfl) (own_w hw 32 rfl) (own_w hw 33 rfl) (own_w hw 34 rfl) (by decide) e7 (rmCkN l Z a0 hw [] lt7 y4 h7 n0 (own_oldge old7)) 0 (by decide) (by decide) (by decide) (by decide) (by rw [hml]; rfl) (lenOf pd_11 rfl) rfl (Nat.le_of_eq rfl) (hb hby at_129)
      have M8 := Fr.app N0 N8
      refine own_go st8 ?_
      show own_Go p e below _ T8 (mkF m 132 #[.val (.int y0), .val (.int y1), .val (.int y2), .val (.int y3), .val (.int y4), .val (.int (0 : Int32)), .val (.int (1 : Int32)), .val (.ref b6), .val (.int (0 : Int32)), .val .null, .val (.int y4)] [])
      refine own_go (fun t_ k_ => XS.iconst X8.here hx rfl (hb hby at_132) k_) ?_
      show own_Go p e below _ T8 (mkF m 133 #[.val (.int y0), .val (.int y1), .val (.int y2), .val (.int y3), .val (.int y4), .val (.int (0 : Int32)), .val (.int (1 : Int32)), .val (.ref b6), .val (.int (0 : Int32)), .val .null, .val (.int y4)] [(.int (1 : Int32))])
      refine own_retZW X8 hS7 (by rw [e8]; exact hk7) hx hlk hret (hb hby at_133) (Or.inr rfl) (by decide) (by decide) ?_
      exact ⟨rfl, M8⟩
  · rw [q9]
    show own_Go p e below _ T0 (mkF m 5 #[.val (.int y0), .val (.int y1), .val (.int y2), .val (.int y3), .val (.int y4), .val (.int (1 : Int32)), .unset, .unset, .unset, .unset, .unset] [])
    refine own_go (fun t_ k_ => XS.iloadN X0.here hx rfl (hb hby at_5) rfl k_) ?_
    show own_Go p e below _ T0 (mkF m 6 #[.val (.int y0), .val (.int y1), .val (.int y2), .val (.int y3), .val (.int y4), .val (.int (1 : Int32)), .unset, .unset, .unset, .unset, .unset] [(.int y0)])
    refine own_go (fun t_ k_ => XS.sipush X0.here hx rfl (hb hby at_6) k_) ?_
    show own_Go p e below _ T0 (mkF m 9 #[.val (.int y0), .val (.int y1), .val (.int y2), .val (.int y3), .val (.int y4), .val (.int (1 : Int32)), .unset, .unset, .unset, .unset, .unset] [(.int (256 : Int32)), (.int y0)])
    refine own_go (fun t_ k_ => XS.iand X0.here hx rfl (hb hby at_9) rfl k_) ?_
    show own_Go p e below _ T0 (mkF m 10 #[.val (.int y0), .val (.int y1), .val (.int y2), .val (.int y3), .val (.int y4), .val (.int (1 : Int32)), .unset, .unset, .unset, .unset, .unset] [(.int (y0 &&& (256 : Int32)))])
    by_cases hnul : (y0 &&& (256 : Int32)) = 0
    · show own_Go p e below _ T0 (mkF m 10 #[.val (.int y0), .val (.int y1), .val (.int y2), .val (.int y3), .val (.int y4), .val (.int (1 : Int32)), .unset, .unset, .unset, .unset, .unset] [(.int (y0 &&& (256 : Int32)))])
      refine own_go (fun t_ k_ => XS.ifYes X0.here hx rfl (pc0 := 10) (pc' := 17) rfl (hb hby at_10) rfl (XT.i0_eq_t hnul) (by decide) (by decide) k_) ?_
      show own_Go p e below _ T0 (mkF m 17 #[.val (.int y0), .val (.int y1), .val (.int y2), .val (.int y3), .val (.int y4), .val (.int (1 : Int32)), .unset, .unset, .unset, .unset, .unset] [])
      refine own_go (fun t_ k_ => XS.iconst X0.here hx rfl (hb hby at_17) k_) ?_
      show own_Go p e below _ T0 (mkF m 18 #[.val (.int y0), .val (.int y1), .val (.int y2), .val (.int y3), .val (.int y4), .val (.int (1 : Int32)), .unset, .unset, .unset, .unset, .unset] [(.int (0 : Int32))])
      refine own_go (fun t_ k_ => XS.istore X0.here hx rfl (hb hby at_18) rfl (l' := #[.val (.int y0), .val (.int y1), .val (.int y2), .val (.int y3), .val (.int y4), .val (.int (1 : Int32)), .val (.int (0 : Int32)), .unset, .unset, .unset, .unset]) rfl k_) ?_
      show own_Go p e below _ T0 (mkF m 20 #[.val (.int y0), .val (.int y1), .val (.int y2), .val (.int y3), .val (.int y4), .val (.int (1 : Int32)), .val (.int (0 : Int32)), .unset, .unset, .unset, .unset] [])
      refine own_go (fun t_ k_ => XS.bipush X0.here hx rfl (hb hby at_20) k_) ?_
      show own_Go p e below _ T0 (mkF m 22 #[.val (.int y0), .val (.int y1), .val (.int y2), .val (.int y3), .val (.int y4), .val (.int (1 : Int32)), .val (.int (0 : Int32)), .unset, .unset, .unset, .unset] [(.int (6 : Int32))])
      obtain ⟨T9, h9, b9, X9, e9, E9, g9, V9, st9⟩ := own_newCA X0 hx hZ (own_w hw 0 rfl) e0 (Ls := #[.val (.int y0), .val (.int y1), .val (.int y2), .val (.int y3), .val (.int y4), .val (.int (1 : Int32)), .val (.int (0 : Int32)), .unset, .unset, .unset, .unset]) (rest := []) (hb hby at_22) 6 6 (by omega) (by decide) (by decide) (by decide)
      have ge_b9 : n0 ≤ b9 := g9 ▸ own_oldge O0
      have old9 := O0.ext E9
      refine own_go st9 ?_
      show own_Go p e below _ T9 (mkF m 24 #[.val (.int y0), .val (.int y1), .val (.int y2), .val (.int y3), .val (.int y4), .val (.int (1 : Int32)), .val (.int (0 : Int32)), .unset, .unset, .unset, .unset] [(.ref b9)])
      refine own_go (fun t_ k_ => XS.astore X9.here hx rfl (hb hby at_24) rfl rfl (l' := #[.val (.int y0), .val (.int y1), .val (.int y2), .val (.int y3), .val (.int y4), .val (.int (1 : Int32)), .val (.int (0 : Int32)), .val (.ref b9), .unset, .unset, .unset]) rfl k_) ?_
      show own_Go p e below _ T9 (mkF m 26 #[.val (.int y0), .val (.int y1), .val (.int y2), .val (.int y3), .val (.int y4), .val (.int (1 : Int32)), .val (.int (0 : Int32)), .val (.ref b9), .unset, .unset, .unset] [])
      refine own_go (fun t_ k_ => XS.iconst X9.here hx rfl (hb hby at_26) k_) ?_
      show own_Go p e below _ T9 (mkF m 27 #[.val (.int y0), .val (.int y1), .val (.int y2), .val (.int y3), .val (.int y4), .val (.int (1 : Int32)), .val (.int (0 : Int32)), .val (.ref b9), .unset, .unset, .unset] [(.int (0 : Int32))])
      refine own_go (fun t_ k_ => XS.istore X9.here hx rfl (hb hby at_27) rfl (l' := #[.val (.int y0), .val (.int y1), .val (.int y2), .val (.int y3), .val (.int y4), .val (.int (1 : Int32)), .val (.int (0 : Int32)), .val (.ref b9), .val (.int (0 : Int32)), .unset, .unset]) rfl k_) ?_
      show own_Go p e below _ T9 (mkF m 29 #[.val (.int y0), .val (.int y1), .val (.int y2), .val (.int y3), .val (.int y4), .val (.int (1 : Int32)), .val (.int (0 : Int32)), .val (.ref b9), .val (.int (0 : Int32)), .unset, .unset] [])
      refine own_go (fun t_ k_ => XS.iload X9.here hx rfl (hb hby at_29) rfl k_) ?_
      show own_Go p e below _ T9 (mkF m 31 #[.val (.int y0), .val (.int y1), .val (.int y2), .val (.int y3), .val (.int y4), .val (.int (1 : Int32)), .val (.int (0 : Int32)), .val (.ref b9), .val (.int (0 : Int32)), .unset, .unset] [(.int (1 : Int32))])
      refine own_go (fun t_ k_ => XS.ifNo X9.here hx rfl (hb hby at_31) rfl (XT.i0_le_f (by decide)) k_) ?_
      show own_Go p e below _ T9 (mkF m 34 #[.val (.int y0), .val (.int y1), .val (.int y2), .val (.int y3), .val (.int y4), .val (.int (1 : Int32)), .val (.int (0 : Int32)), .val (.ref b9), .val (.int (0 : Int32)), .unset, .unset] [])
      refine own_go (fun t_ k_ => XS.aload X9.here hx rfl (hb hby at_34) rfl rfl k_) ?_
      show own_Go p e below _ T9 (mkF m 36 #[.val (.int y0), .val (.int y1), .val (.int y2), .val (.int y3), .val (.int y4), .val (.int (1 : Int32)), .val (.int (0 : Int32)), .val (.ref b9), .val (.int (0 : Int32)), .unset, .unset] [(.ref b9)])
      refine own_go (fun t_ k_ => XS.iload X9.here hx rfl (hb hby at_36) rfl k_) ?_
      show own_Go p e below _ T9 (mkF m 38 #[.val (.int y0), .val (.int y1), .val (.int y2), .val (.int y3), .val (.int y4), .val (.int (1 : Int32)), .val (.int (0 : Int32)), .val (.ref b9), .val (.int (0 : Int32)), .unset, .unset] [(.int (0 : Int32)), (.ref b9)])
      refine own_go (fun t_ k_ => XS.iloadN X9.here hx rfl (hb hby at_38) rfl k_) ?_
      show own_Go p e below _ T9 (mkF m 39 #[.val (.int y0), .val (.int y1), .val (.int y2), .val (.int y3), .val (.int y4), .val (.int (1 : Int32)), .val (.int (0 : Int32)), .val (.ref b9), .val (.int (0 : Int32)), .unset, .unset] [(.int y0), (.int (0 : Int32)), (.ref b9)])
      refine own_go (fun t_ k_ => XS.iconst X9.here hx rfl (hb hby at_39) k_) ?_
      show own_Go p e below _ T9 (mkF m 40 #[.val (.int y0), .val (.int y1), .val (.int y2), .val (.int y3), .val (.int y4), .val (.int (1 : Int32)), .val (.int (0 : Int32)), .val (.ref b9), .val (.int (0 : Int32)), .unset, .unset] [(.int (2 : Int32)), (.int y0), (.int (0 : Int32)), (.ref b9)])
      refine own_go (fun t_ k_ => XS.iushr X9.here hx rfl (hb hby at_40) rfl k_) ?_
      show own_Go p e below _ T9 (mkF m 41 #[.val (.int y0), .val (.int y1), .val (.int y2), .val (.int y3), .val (.int y4), .val (.int (1 : Int32)), .val (.int (0 : Int32)), .val (.ref b9), .val (.int (0 : Int32)), .unset, .unset] [(.int ((y0.toUInt32 >>> ((2 : Int32) &&& 31).toUInt32).toInt32)), (.int (0 : Int32)), (.ref b9)])
      refine own_go (fun t_ k_ => XS.iloadN X9.here hx rfl (hb hby at_41) rfl k_) ?_
      show own_Go p e below _ T9 (mkF m 42 #[.val (.int y0), .val (.int y1), .val (.int y2), .val (.int y3), .val (.int y4), .val (.int (1 : Int32)), .val (.int (0 : Int32)), .val (.ref b9), .val (.int (0 : Int32)), .unset, .unset] [(.int y1), (.int ((y0.toUInt32 >>> ((2 : Int32) &&& 31).toUInt32).toInt32)), (.int (0 : Int32)), (.ref b9)])
      obtain ⟨_, T10, L10, X10, ⟨⟨q10, f10, rfl, ⟨V10, K10⟩, pc10, ag10, hc10⟩, N10⟩, st10⟩ := own_callS X9 hx hZ (y := (⟨"com/example/lease/lease/service/SizesCheckCharactersPinLaw", "put", "([CIII)I"⟩ : MethodName)) (argsL := [(.ref b9), (.int (0 : Int32)), (.int ((y0.toUInt32 >>> ((2 : Int32) &&& 31).toUInt32).toInt32)), (.int y1)]) (rest := []) (Ls := #[.val (.int y0), .val (.int y1), .val (.int y2), .val (.int y3), .val (.int y4), .val (.int (1 : Int32)), .val (.int (0 : Int32)), .val (.ref b9), .val (.int (0 : Int32)), .unset, .unset]) hown (own_w hw 65 rfl) (own_w hw 66 rfl) (own_w hw 3 rfl) (own_w hw 67 rfl) (by decide) e9 (rmPu l Z a0 hw [] b9 0 (fun (_ : Nat) => (0 : Int32)) ((y0.toUInt32 >>> ((2 : Int32) &&& 31).toUInt32).toInt32) y1 h9 n0 (own_oldge old9) old9 V9 ge_b9 (by omega) own_zC) 0 (by decide) (by decide) (by decide) (by decide) (by rw [hml]; rfl) (lenOf pd_20 rfl) rfl (Nat.le_of_eq rfl) (hb hby at_42)
      have M10 := Fr.app N0 N10
      have old10 := old9.keep K10 (allS ge_b9 all0)
      have rs10 := own_rs_snoc ag10 pc10 _ _ own_rs0
      have le10 := own_pcLe pc10
      refine own_go st10 ?_
      show own_Go p e below _ T10 (mkF m 45 #[.val (.int y0), .val (.int y1), .val (.int y2), .val (.int y3), .val (.int y4), .val (.int (1 : Int32)), .val (.int (0 : Int32)), .val (.ref b9), .val (.int (0 : Int32)), .unset, .unset] [(.int (Int32.ofNat q10))])
      refine own_go (fun t_ k_ => XS.istore X10.here hx rfl (hb hby at_45) rfl (l' := #[.val (.int y0), .val (.int y1), .val (.int y2), .val (.int y3), .val (.int y4), .val (.int (1 : Int32)), .val (.int (0 : Int32)), .val (.ref b9), .val (.int (Int32.ofNat q10)), .unset, .unset]) rfl k_) ?_
      show own_Go p e below _ T10 (mkF m 47 #[.val (.int y0), .val (.int y1), .val (.int y2), .val (.int y3), .val (.int y4), .val (.int (1 : Int32)), .val (.int (0 : Int32)), .val (.ref b9), .val (.int (Int32.ofNat q10)), .unset, .unset] [])
      refine own_go (fun t_ k_ => XS.iload X10.here hx rfl (hb hby at_47) rfl k_) ?_
      show own_Go p e below _ T10 (mkF m 49 #[.val (.int y0), .val (.int y1), .val (.int y2), .val (.int y3), .val (.int y4), .val (.int (1 : Int32)), .val (.int (0 : Int32)), .val (.ref b9), .val (.int (Int32.ofNat q10)), .unset, .unset] [(.int (1 : Int32))])
      refine own_go (fun t_ k_ => XS.iconst X10.here hx rfl (hb hby at_49) k_) ?_
      show own_Go p e below _ T10 (mkF m 50 #[.val (.int y0), .val (.int y1), .val (.int y2), .val (.int y3), .val (.int y4), .val (.int (1 : Int32)), .val (.int (0 : Int32)), .val (.ref b9), .val (.int (Int32.ofNat q10)), .unset, .unset] [(.int (1 : Int32)), (.int (1 : Int32))])
      refine own_go (fun t_ k_ => XS.icmpYes X10.here hx rfl (pc0 := 50) (pc' := 66) rfl (hb hby at_50) rfl (XT.ii_le_t (by decide)) (by decide) (by decide) k_) ?_
      show own_Go p e below _ T10 (mkF m 66 #[.val (.int y0), .val (.int y1), .val (.int y2), .val (.int y3), .val (.int y4), .val (.int (1 : Int32)), .val (.int (0 : Int32)), .val (.ref b9), .val (.int (Int32.ofNat q10)), .unset, .unset] [])
      refine own_go (fun t_ k_ => XS.iload X10.here hx rfl (hb hby at_66) rfl k_) ?_
      show own_Go p e below _ T10 (mkF m 68 #[.val (.int y0), .val (.int y1), .val (.int y2), .val (.int y3), .val (.int y4), .val (.int (1 : Int32)), .val (.int (0 : Int32)), .val (.ref b9), .val (.int (Int32.ofNat q10)), .unset, .unset] [(.int (1 : Int32))])
      refine own_go (fun t_ k_ => XS.iconst X10.here hx rfl (hb hby at_68) k_) ?_
      show own_Go p e below _ T10 (mkF m 69 #[.val (.int y0), .val (.int y1), .val (.int y2), .val (.int y3), .val (.int y4), .val (.int (1 : Int32)), .val (.int (0 : Int32)), .val (.ref b9), .val (.int (Int32.ofNat q10)), .unset, .unset] [(.int (2 : Int32)), (.int (1 : Int32))])
      refine own_go (fun t_ k_ => XS.icmpYes X10.here hx rfl (pc0 := 69) (pc' := 86) rfl (hb hby at_69) rfl (XT.ii_le_t (by decide)) (by decide) (by decide) k_) ?_
      show own_Go p e below _ T10 (mkF m 86 #[.val (.int y0), .val (.int y1), .val (.int y2), .val (.int y3), .val (.int y4), .val (.int (1 : Int32)), .val (.int (0 : Int32)), .val (.ref b9), .val (.int (Int32.ofNat q10)), .unset, .unset] [])
      refine own_go (fun t_ k_ => XS.iload X10.here hx rfl (hb hby at_86) rfl k_) ?_
      show own_Go p e below _ T10 (mkF m 88 #[.val (.int y0), .val (.int y1), .val (.int y2), .val (.int y3), .val (.int y4), .val (.int (1 : Int32)), .val (.int (0 : Int32)), .val (.ref b9), .val (.int (Int32.ofNat q10)), .unset, .unset] [(.int (0 : Int32))])
      refine own_go (fun t_ k_ => XS.ifYes X10.here hx rfl (pc0 := 88) (pc' := 95) rfl (hb hby at_88) rfl (XT.i0_eq_t (by decide)) (by decide) (by decide) k_) ?_
      show own_Go p e below _ T10 (mkF m 95 #[.val (.int y0), .val (.int y1), .val (.int y2), .val (.int y3), .val (.int y4), .val (.int (1 : Int32)), .val (.int (0 : Int32)), .val (.ref b9), .val (.int (Int32.ofNat q10)), .unset, .unset] [])
      refine own_go (fun t_ k_ => XS.aload X10.here hx rfl (hb hby at_95) rfl rfl k_) ?_
      show own_Go p e below _ T10 (mkF m 97 #[.val (.int y0), .val (.int y1), .val (.int y2), .val (.int y3), .val (.int y4), .val (.int (1 : Int32)), .val (.int (0 : Int32)), .val (.ref b9), .val (.int (Int32.ofNat q10)), .unset, .unset] [(.ref b9)])
      refine own_go (fun t_ k_ => XS.iload X10.here hx rfl (hb hby at_97) rfl k_) ?_
      show own_Go p e below _ T10 (mkF m 99 #[.val (.int y0), .val (.int y1), .val (.int y2), .val (.int y3), .val (.int y4), .val (.int (1 : Int32)), .val (.int (0 : Int32)), .val (.ref b9), .val (.int (Int32.ofNat q10)), .unset, .unset] [(.int (Int32.ofNat q10)), (.ref b9)])
      obtain ⟨_, T11, L11, X11, ⟨⟨a11, rfl, str11, old11⟩, N11⟩, hS11, hZ, hown, st11⟩ := own_callSW X10 hx hZH (y := (⟨"com/example/lease/lease/service/SizesCheckCharactersPinLaw", "make", "([CI)Ljava/lang/String;"⟩ : MethodName)) (argsL := [(.ref b9), (.int (Int32.ofNat q10))]) (rest := []) (Ls := #[.val (.int y0), .val (.int y1), .val (.int y2), .val (.int y3), .val (.int y4), .val (.int (1 : Int32)), .val (.int (0 : Int32)), .val (.ref b9), .val (.int (Int32.ofNat q10)), .unset, .unset]) hown (own_w hw 1 rfl) (own_w hw 2 rfl) (own_w hw 3 rfl) (own_w hw 4 rfl) (by decide) rfl (rmMk l Z a0 hw [] b9 q10 f10 cs T10.heap n0 (own_oldge old10) old10 S_ad S_hi S_lo S_cs hcs hH hcw V10 hc10 (by omega)) 0 (by decide) (by decide) (by decide) (by decide) (by rw [hml]; rfl) (lenOf pd_18 rfl) rfl (Nat.le_of_eq rfl) (hb hby at_99)
      have M11 := Fr.app M10 N11
      refine own_go st11 ?_
      show own_Go p e below _ T11 (mkF m 102 #[.val (.int y0), .val (.int y1), .val (.int y2), .val (.int y3), .val (.int y4), .val (.int (1 : Int32)), .val (.int (0 : Int32)), .val (.ref b9), .val (.int (Int32.ofNat q10)), .unset, .unset] [(.ref a11)])
      refine own_go (fun t_ k_ => XS.astore X11.here hx rfl (hb hby at_102) rfl rfl (l' := #[.val (.int y0), .val (.int y1), .val (.int y2), .val (.int y3), .val (.int y4), .val (.int (1 : Int32)), .val (.int (0 : Int32)), .val (.ref b9), .val (.int (Int32.ofNat q10)), .val (.ref a11), .unset]) rfl k_) ?_
      show own_Go p e below _ T11 (mkF m 104 #[.val (.int y0), .val (.int y1), .val (.int y2), .val (.int y3), .val (.int y4), .val (.int (1 : Int32)), .val (.int (0 : Int32)), .val (.ref b9), .val (.int (Int32.ofNat q10)), .val (.ref a11), .unset] [])
      refine own_go (fun t_ k_ => XS.iload X11.here hx rfl (hb hby at_104) rfl k_) ?_
      show own_Go p e below _ T11 (mkF m 106 #[.val (.int y0), .val (.int y1), .val (.int y2), .val (.int y3), .val (.int y4), .val (.int (1 : Int32)), .val (.int (0 : Int32)), .val (.ref b9), .val (.int (Int32.ofNat q10)), .val (.ref a11), .unset] [(.int (0 : Int32))])
      refine own_go (fun t_ k_ => XS.ifYes X11.here hx rfl (pc0 := 106) (pc' := 114) rfl (hb hby at_106) rfl (XT.i0_eq_t (by decide)) (by decide) (by decide) k_) ?_
      show own_Go p e below _ T11 (mkF m 114 #[.val (.int y0), .val (.int y1), .val (.int y2), .val (.int y3), .val (.int y4), .val (.int (1 : Int32)), .val (.int (0 : Int32)), .val (.ref b9), .val (.int (Int32.ofNat q10)), .val (.ref a11), .unset] [])
      refine own_go (fun t_ k_ => XS.iload X11.here hx rfl (hb hby at_114) rfl k_) ?_
      show own_Go p e below _ T11 (mkF m 116 #[.val (.int y0), .val (.int y1), .val (.int y2), .val (.int y3), .val (.int y4), .val (.int (1 : Int32)), .val (.int (0 : Int32)), .val (.ref b9), .val (.int (Int32.ofNat q10)), .val (.ref a11), .unset] [(.int (1 : Int32))])
      refine own_go (fun t_ k_ => XS.iload X11.here hx rfl (hb hby at_116) rfl k_) ?_
      show own_Go p e below _ T11 (mkF m 118 #[.val (.int y0), .val (.int y1), .val (.int y2), .val (.int y3), .val (.int y4), .val (.int (1 : Int32)), .val (.int (0 : Int32)), .val (.ref b9), .val (.int (Int32.ofNat q10)), .val (.ref a11), .unset] [(.int y4), (.int (1 : Int32))])
      obtain ⟨_, T12, L12, X12, ⟨⟨mx12, rfl, hK12⟩, N12, e12⟩, st12⟩ := own_callS X11 hx hZ (y := (⟨"java/lang/Math", "max", "(II)I"⟩ : MethodName)) (argsL := [(.int (1 : Int32)), (.int y4)]) (rest := []) (Ls := #[.val (.int y0), .val (.int y1), .val (.int y2), .val (.int y3), .val (.int y4), .val (.int (1 : Int32)), .val (.int (0 : Int32)), .val (.ref b9), .val (.int (Int32.ofNat q10)), .val (.ref a11), .unset]) hown (own_w hw 26 rfl) (own_w hw 27 rfl) (own_w hw 28 rfl) (own_w hw 29 rfl) (by decide) rfl (rmMax l Z a0 hw [] (1 : Int32) y4 T11.heap n0 (own_oldge old11)) 0 (by decide) (by decide) (by decide) (by decide) (by rw [hml]; rfl) (lenOf pd_7 rfl) rfl (Nat.le_of_eq rfl) (hb hby at_118)
      have M12 := Fr.app M11 N12
      refine own_go st12 ?_
      show own_Go p e below _ T12 (mkF m 121 #[.val (.int y0), .val (.int y1), .val (.int y2), .val (.int y3), .val (.int y4), .val (.int (1 : Int32)), .val (.int (0 : Int32)), .val (.ref b9), .val (.int (Int32.ofNat q10)), .val (.ref a11), .unset] [(.int mx12)])
      refine own_go (fun t_ k_ => XS.istore X12.here hx rfl (hb hby at_121) rfl (l' := #[.val (.int y0), .val (.int y1), .val (.int y2), .val (.int y3), .val (.int y4), .val (.int (1 : Int32)), .val (.int (0 : Int32)), .val (.ref b9), .val (.int (Int32.ofNat q10)), .val (.ref a11), .val (.int mx12)]) rfl k_) ?_
      show own_Go p e below _ T12 (mkF m 123 #[.val (.int y0), .val (.int y1), .val (.int y2), .val (.int y3), .val (.int y4), .val (.int (1 : Int32)), .val (.int (0 : Int32)), .val (.ref b9), .val (.int (Int32.ofNat q10)), .val (.ref a11), .val (.int mx12)] [])
      obtain ⟨lt13, T13, h13, k13, X13, e13, E13, hS13, hk13, hZ, hown, st13⟩ := own_ldcF X12 hx hZ hown (own_w hw 30 rfl) (own_str hw) e12 hS11 (Nat.le_refl _) (Ls := #[.val (.int y0), .val (.int y1), .val (.int y2), .val (.int y3), .val (.int y4), .val (.int (1 : Int32)), .val (.int (0 : Int32)), .val (.ref b9), .val (.int (Int32.ofNat q10)), .val (.ref a11), .val (.int mx12)]) (rest := []) (hb hby at_123) 4 (by decide) (by decide) (by decide) (by decide)
      have old13 := old11.ext E13
      have str_13 := str11.ext E13
      refine own_go st13 ?_
      show own_Go p e below _ T13 (mkF m 125 #[.val (.int y0), .val (.int y1), .val (.int y2), .val (.int y3), .val (.int y4), .val (.int (1 : Int32)), .val (.int (0 : Int32)), .val (.ref b9), .val (.int (Int32.ofNat q10)), .val (.ref a11), .val (.int mx12)] [(.ref lt13)])
      refine own_go (fun t_ k_ => XS.aload X13.here hx rfl (hb hby at_125) rfl rfl k_) ?_
      show own_Go p e below _ T13 (mkF m 127 #[.val (.int y0), .val (.int y1), .val (.int y2), .val (.int y3), .val (.int y4), .val (.int (1 : Int32)), .val (.int (0 : Int32)), .val (.ref b9), .val (.int (Int32.ofNat q10)), .val (.ref a11), .val (.int mx12)] [(.ref a11), (.ref lt13)])
      refine own_go (fun t_ k_ => XS.iload X13.here hx rfl (hb hby at_127) rfl k_) ?_
      show own_Go p e below _ T13 (mkF m 129 #[.val (.int y0), .val (.int y1), .val (.int y2), .val (.int y3), .val (.int y4), .val (.int (1 : Int32)), .val (.int (0 : Int32)), .val (.ref b9), .val (.int (Int32.ofNat q10)), .val (.ref a11), .val (.int mx12)] [(.int mx12), (.ref a11), (.ref lt13)])
      obtain ⟨_, T14, L14, X14, ⟨rfl, N14, e14⟩, st14⟩ := own_callS X13 hx hZ (y := (⟨"com/example/lease/lease/service/Sizes", "checkCharacters", "(Ljava/lang/String;Ljava/lang/String;I)V"⟩ : MethodName)) (argsL := [(.ref lt13), (.ref a11), (.int mx12)]) (rest := []) (Ls := #[.val (.int y0), .val (.int y1), .val (.int y2), .val (.int y3), .val (.int y4), .val (.int (1 : Int32)), .val (.int (0 : Int32)), .val (.ref b9), .val (.int (Int32.ofNat q10)), .val (.ref a11), .val (.int mx12)]) hown (own_w hw 31 rfl) (own_w hw 32 rfl) (own_w hw 33 rfl) (own_w hw 34 rfl) (by decide) e13 (rmCk l Z a0 hw [] lt13 a11 mx12 q10 1 f10 cs h13 n0 (own_oldge old13) old13 S_ad S_hi S_lo S_cs hcs str_13 hc10 (by omega) rs10 hK12) 0 (by decide) (by decide) (by decide) (by decide) (by rw [hml]; rfl) (lenOf pd_11 rfl) rfl (Nat.le_of_eq rfl) (hb hby at_129)
      have M14 := Fr.app M12 N14
      refine own_go st14 ?_
      show own_Go p e below _ T14 (mkF m 132 #[.val (.int y0), .val (.int y1), .val (.int y2), .val (.int y3), .val (.int y4), .val (.int (1 : Int32)), .val (.int (0 : Int32)), .val (.ref b9), .val (.int (Int32.ofNat q10)), .val (.ref a11), .val (.int mx12)] [])
      refine own_go (fun t_ k_ => XS.iconst X14.here hx rfl (hb hby at_132) k_) ?_
      show own_Go p e below _ T14 (mkF m 133 #[.val (.int y0), .val (.int y1), .val (.int y2), .val (.int y3), .val (.int y4), .val (.int (1 : Int32)), .val (.int (0 : Int32)), .val (.ref b9), .val (.int (Int32.ofNat q10)), .val (.ref a11), .val (.int mx12)] [(.int (1 : Int32))])
      refine own_retZW X14 hS13 (by rw [e14]; exact hk13) hx hlk hret (hb hby at_133) (Or.inr rfl) (by decide) (by decide) ?_
      exact ⟨rfl, M14⟩
    · show own_Go p e below _ T0 (mkF m 10 #[.val (.int y0), .val (.int y1), .val (.int y2), .val (.int y3), .val (.int y4), .val (.int (1 : Int32)), .unset, .unset, .unset, .unset, .unset] [(.int (y0 &&& (256 : Int32)))])
      refine own_go (fun t_ k_ => XS.ifNo X0.here hx rfl (hb hby at_10) rfl (XT.i0_eq_f hnul) k_) ?_
      show own_Go p e below _ T0 (mkF m 13 #[.val (.int y0), .val (.int y1), .val (.int y2), .val (.int y3), .val (.int y4), .val (.int (1 : Int32)), .unset, .unset, .unset, .unset, .unset] [])
      refine own_go (fun t_ k_ => XS.iconst X0.here hx rfl (hb hby at_13) k_) ?_
      show own_Go p e below _ T0 (mkF m 14 #[.val (.int y0), .val (.int y1), .val (.int y2), .val (.int y3), .val (.int y4), .val (.int (1 : Int32)), .unset, .unset, .unset, .unset, .unset] [(.int (1 : Int32))])
      refine own_go (fun t_ k_ => XS.goto X0.here hx rfl (pc0 := 14) (pc' := 18) rfl (hb hby at_14) (by decide) (by decide) k_) ?_
      show own_Go p e below _ T0 (mkF m 18 #[.val (.int y0), .val (.int y1), .val (.int y2), .val (.int y3), .val (.int y4), .val (.int (1 : Int32)), .unset, .unset, .unset, .unset, .unset] [(.int (1 : Int32))])
      refine own_go (fun t_ k_ => XS.istore X0.here hx rfl (hb hby at_18) rfl (l' := #[.val (.int y0), .val (.int y1), .val (.int y2), .val (.int y3), .val (.int y4), .val (.int (1 : Int32)), .val (.int (1 : Int32)), .unset, .unset, .unset, .unset]) rfl k_) ?_
      show own_Go p e below _ T0 (mkF m 20 #[.val (.int y0), .val (.int y1), .val (.int y2), .val (.int y3), .val (.int y4), .val (.int (1 : Int32)), .val (.int (1 : Int32)), .unset, .unset, .unset, .unset] [])
      refine own_go (fun t_ k_ => XS.bipush X0.here hx rfl (hb hby at_20) k_) ?_
      show own_Go p e below _ T0 (mkF m 22 #[.val (.int y0), .val (.int y1), .val (.int y2), .val (.int y3), .val (.int y4), .val (.int (1 : Int32)), .val (.int (1 : Int32)), .unset, .unset, .unset, .unset] [(.int (6 : Int32))])
      obtain ⟨T15, h15, b15, X15, e15, E15, g15, V15, st15⟩ := own_newCA X0 hx hZ (own_w hw 0 rfl) e0 (Ls := #[.val (.int y0), .val (.int y1), .val (.int y2), .val (.int y3), .val (.int y4), .val (.int (1 : Int32)), .val (.int (1 : Int32)), .unset, .unset, .unset, .unset]) (rest := []) (hb hby at_22) 6 6 (by omega) (by decide) (by decide) (by decide)
      have ge_b15 : n0 ≤ b15 := g15 ▸ own_oldge O0
      have old15 := O0.ext E15
      refine own_go st15 ?_
      show own_Go p e below _ T15 (mkF m 24 #[.val (.int y0), .val (.int y1), .val (.int y2), .val (.int y3), .val (.int y4), .val (.int (1 : Int32)), .val (.int (1 : Int32)), .unset, .unset, .unset, .unset] [(.ref b15)])
      refine own_go (fun t_ k_ => XS.astore X15.here hx rfl (hb hby at_24) rfl rfl (l' := #[.val (.int y0), .val (.int y1), .val (.int y2), .val (.int y3), .val (.int y4), .val (.int (1 : Int32)), .val (.int (1 : Int32)), .val (.ref b15), .unset, .unset, .unset]) rfl k_) ?_
      show own_Go p e below _ T15 (mkF m 26 #[.val (.int y0), .val (.int y1), .val (.int y2), .val (.int y3), .val (.int y4), .val (.int (1 : Int32)), .val (.int (1 : Int32)), .val (.ref b15), .unset, .unset, .unset] [])
      refine own_go (fun t_ k_ => XS.iconst X15.here hx rfl (hb hby at_26) k_) ?_
      show own_Go p e below _ T15 (mkF m 27 #[.val (.int y0), .val (.int y1), .val (.int y2), .val (.int y3), .val (.int y4), .val (.int (1 : Int32)), .val (.int (1 : Int32)), .val (.ref b15), .unset, .unset, .unset] [(.int (0 : Int32))])
      refine own_go (fun t_ k_ => XS.istore X15.here hx rfl (hb hby at_27) rfl (l' := #[.val (.int y0), .val (.int y1), .val (.int y2), .val (.int y3), .val (.int y4), .val (.int (1 : Int32)), .val (.int (1 : Int32)), .val (.ref b15), .val (.int (0 : Int32)), .unset, .unset]) rfl k_) ?_
      show own_Go p e below _ T15 (mkF m 29 #[.val (.int y0), .val (.int y1), .val (.int y2), .val (.int y3), .val (.int y4), .val (.int (1 : Int32)), .val (.int (1 : Int32)), .val (.ref b15), .val (.int (0 : Int32)), .unset, .unset] [])
      refine own_go (fun t_ k_ => XS.iload X15.here hx rfl (hb hby at_29) rfl k_) ?_
      show own_Go p e below _ T15 (mkF m 31 #[.val (.int y0), .val (.int y1), .val (.int y2), .val (.int y3), .val (.int y4), .val (.int (1 : Int32)), .val (.int (1 : Int32)), .val (.ref b15), .val (.int (0 : Int32)), .unset, .unset] [(.int (1 : Int32))])
      refine own_go (fun t_ k_ => XS.ifNo X15.here hx rfl (hb hby at_31) rfl (XT.i0_le_f (by decide)) k_) ?_
      show own_Go p e below _ T15 (mkF m 34 #[.val (.int y0), .val (.int y1), .val (.int y2), .val (.int y3), .val (.int y4), .val (.int (1 : Int32)), .val (.int (1 : Int32)), .val (.ref b15), .val (.int (0 : Int32)), .unset, .unset] [])
      refine own_go (fun t_ k_ => XS.aload X15.here hx rfl (hb hby at_34) rfl rfl k_) ?_
      show own_Go p e below _ T15 (mkF m 36 #[.val (.int y0), .val (.int y1), .val (.int y2), .val (.int y3), .val (.int y4), .val (.int (1 : Int32)), .val (.int (1 : Int32)), .val (.ref b15), .val (.int (0 : Int32)), .unset, .unset] [(.ref b15)])
      refine own_go (fun t_ k_ => XS.iload X15.here hx rfl (hb hby at_36) rfl k_) ?_
      show own_Go p e below _ T15 (mkF m 38 #[.val (.int y0), .val (.int y1), .val (.int y2), .val (.int y3), .val (.int y4), .val (.int (1 : Int32)), .val (.int (1 : Int32)), .val (.ref b15), .val (.int (0 : Int32)), .unset, .unset] [(.int (0 : Int32)), (.ref b15)])
      refine own_go (fun t_ k_ => XS.iloadN X15.here hx rfl (hb hby at_38) rfl k_) ?_
      show own_Go p e below _ T15 (mkF m 39 #[.val (.int y0), .val (.int y1), .val (.int y2), .val (.int y3), .val (.int y4), .val (.int (1 : Int32)), .val (.int (1 : Int32)), .val (.ref b15), .val (.int (0 : Int32)), .unset, .unset] [(.int y0), (.int (0 : Int32)), (.ref b15)])
      refine own_go (fun t_ k_ => XS.iconst X15.here hx rfl (hb hby at_39) k_) ?_
      show own_Go p e below _ T15 (mkF m 40 #[.val (.int y0), .val (.int y1), .val (.int y2), .val (.int y3), .val (.int y4), .val (.int (1 : Int32)), .val (.int (1 : Int32)), .val (.ref b15), .val (.int (0 : Int32)), .unset, .unset] [(.int (2 : Int32)), (.int y0), (.int (0 : Int32)), (.ref b15)])
      refine own_go (fun t_ k_ => XS.iushr X15.here hx rfl (hb hby at_40) rfl k_) ?_
      show own_Go p e below _ T15 (mkF m 41 #[.val (.int y0), .val (.int y1), .val (.int y2), .val (.int y3), .val (.int y4), .val (.int (1 : Int32)), .val (.int (1 : Int32)), .val (.ref b15), .val (.int (0 : Int32)), .unset, .unset] [(.int ((y0.toUInt32 >>> ((2 : Int32) &&& 31).toUInt32).toInt32)), (.int (0 : Int32)), (.ref b15)])
      refine own_go (fun t_ k_ => XS.iloadN X15.here hx rfl (hb hby at_41) rfl k_) ?_
      show own_Go p e below _ T15 (mkF m 42 #[.val (.int y0), .val (.int y1), .val (.int y2), .val (.int y3), .val (.int y4), .val (.int (1 : Int32)), .val (.int (1 : Int32)), .val (.ref b15), .val (.int (0 : Int32)), .unset, .unset] [(.int y1), (.int ((y0.toUInt32 >>> ((2 : Int32) &&& 31).toUInt32).toInt32)), (.int (0 : Int32)), (.ref b15)])
      obtain ⟨_, T16, L16, X16, ⟨⟨q16, f16, rfl, ⟨V16, K16⟩, pc16, ag16, hc16⟩, N16⟩, st16⟩ := own_callS X15 hx hZ (y := (⟨"com/example/lease/lease/service/SizesCheckCharactersPinLaw", "put", "([CIII)I"⟩ : MethodName)) (argsL := [(.ref b15), (.int (0 : Int32)), (.int ((y0.toUInt32 >>> ((2 : Int32) &&& 31).toUInt32).toInt32)), (.int y1)]) (rest := []) (Ls := #[.val (.int y0), .val (.int y1), .val (.int y2), .val (.int y3), .val (.int y4), .val (.int (1 : Int32)), .val (.int (1 : Int32)), .val (.ref b15), .val (.int (0 : Int32)), .unset, .unset]) hown (own_w hw 65 rfl) (own_w hw 66 rfl) (own_w hw 3 rfl) (own_w hw 67 rfl) (by decide) e15 (rmPu l Z a0 hw [] b15 0 (fun (_ : Nat) => (0 : Int32)) ((y0.toUInt32 >>> ((2 : Int32) &&& 31).toUInt32).toInt32) y1 h15 n0 (own_oldge old15) old15 V15 ge_b15 (by omega) own_zC) 0 (by decide) (by decide) (by decide) (by decide) (by rw [hml]; rfl) (lenOf pd_20 rfl) rfl (Nat.le_of_eq rfl) (hb hby at_42)
      have M16 := Fr.app N0 N16
      have old16 := old15.keep K16 (allS ge_b15 all0)
      have rs16 := own_rs_snoc ag16 pc16 _ _ own_rs0
      have le16 := own_pcLe pc16
      refine own_go st16 ?_
      show own_Go p e below _ T16 (mkF m 45 #[.val (.int y0), .val (.int y1), .val (.int y2), .val (.int y3), .val (.int y4), .val (.int (1 : Int32)), .val (.int (1 : Int32)), .val (.ref b15), .val (.int (0 : Int32)), .unset, .unset] [(.int (Int32.ofNat q16))])
      refine own_go (fun t_ k_ => XS.istore X16.here hx rfl (hb hby at_45) rfl (l' := #[.val (.int y0), .val (.int y1), .val (.int y2), .val (.int y3), .val (.int y4), .val (.int (1 : Int32)), .val (.int (1 : Int32)), .val (.ref b15), .val (.int (Int32.ofNat q16)), .unset, .unset]) rfl k_) ?_
      show own_Go p e below _ T16 (mkF m 47 #[.val (.int y0), .val (.int y1), .val (.int y2), .val (.int y3), .val (.int y4), .val (.int (1 : Int32)), .val (.int (1 : Int32)), .val (.ref b15), .val (.int (Int32.ofNat q16)), .unset, .unset] [])
      refine own_go (fun t_ k_ => XS.iload X16.here hx rfl (hb hby at_47) rfl k_) ?_
      show own_Go p e below _ T16 (mkF m 49 #[.val (.int y0), .val (.int y1), .val (.int y2), .val (.int y3), .val (.int y4), .val (.int (1 : Int32)), .val (.int (1 : Int32)), .val (.ref b15), .val (.int (Int32.ofNat q16)), .unset, .unset] [(.int (1 : Int32))])
      refine own_go (fun t_ k_ => XS.iconst X16.here hx rfl (hb hby at_49) k_) ?_
      show own_Go p e below _ T16 (mkF m 50 #[.val (.int y0), .val (.int y1), .val (.int y2), .val (.int y3), .val (.int y4), .val (.int (1 : Int32)), .val (.int (1 : Int32)), .val (.ref b15), .val (.int (Int32.ofNat q16)), .unset, .unset] [(.int (1 : Int32)), (.int (1 : Int32))])
      refine own_go (fun t_ k_ => XS.icmpYes X16.here hx rfl (pc0 := 50) (pc' := 66) rfl (hb hby at_50) rfl (XT.ii_le_t (by decide)) (by decide) (by decide) k_) ?_
      show own_Go p e below _ T16 (mkF m 66 #[.val (.int y0), .val (.int y1), .val (.int y2), .val (.int y3), .val (.int y4), .val (.int (1 : Int32)), .val (.int (1 : Int32)), .val (.ref b15), .val (.int (Int32.ofNat q16)), .unset, .unset] [])
      refine own_go (fun t_ k_ => XS.iload X16.here hx rfl (hb hby at_66) rfl k_) ?_
      show own_Go p e below _ T16 (mkF m 68 #[.val (.int y0), .val (.int y1), .val (.int y2), .val (.int y3), .val (.int y4), .val (.int (1 : Int32)), .val (.int (1 : Int32)), .val (.ref b15), .val (.int (Int32.ofNat q16)), .unset, .unset] [(.int (1 : Int32))])
      refine own_go (fun t_ k_ => XS.iconst X16.here hx rfl (hb hby at_68) k_) ?_
      show own_Go p e below _ T16 (mkF m 69 #[.val (.int y0), .val (.int y1), .val (.int y2), .val (.int y3), .val (.int y4), .val (.int (1 : Int32)), .val (.int (1 : Int32)), .val (.ref b15), .val (.int (Int32.ofNat q16)), .unset, .unset] [(.int (2 : Int32)), (.int (1 : Int32))])
      refine own_go (fun t_ k_ => XS.icmpYes X16.here hx rfl (pc0 := 69) (pc' := 86) rfl (hb hby at_69) rfl (XT.ii_le_t (by decide)) (by decide) (by decide) k_) ?_
      show own_Go p e below _ T16 (mkF m 86 #[.val (.int y0), .val (.int y1), .val (.int y2), .val (.int y3), .val (.int y4), .val (.int (1 : Int32)), .val (.int (1 : Int32)), .val (.ref b15), .val (.int (Int32.ofNat q16)), .unset, .unset] [])
      refine own_go (fun t_ k_ => XS.iload X16.here hx rfl (hb hby at_86) rfl k_) ?_
      show own_Go p e below _ T16 (mkF m 88 #[.val (.int y0), .val (.int y1), .val (.int y2), .val (.int y3), .val (.int y4), .val (.int (1 : Int32)), .val (.int (1 : Int32)), .val (.ref b15), .val (.int (Int32.ofNat q16)), .unset, .unset] [(.int (1 : Int32))])
      refine own_go (fun t_ k_ => XS.ifNo X16.here hx rfl (hb hby at_88) rfl (XT.i0_eq_f (by decide)) k_) ?_
      show own_Go p e below _ T16 (mkF m 91 #[.val (.int y0), .val (.int y1), .val (.int y2), .val (.int y3), .val (.int y4), .val (.int (1 : Int32)), .val (.int (1 : Int32)), .val (.ref b15), .val (.int (Int32.ofNat q16)), .unset, .unset] [])
      refine own_go (fun t_ k_ => XS.aconstNull X16.here hx rfl (hb hby at_91) k_) ?_
      show own_Go p e below _ T16 (mkF m 92 #[.val (.int y0), .val (.int y1), .val (.int y2), .val (.int y3), .val (.int y4), .val (.int (1 : Int32)), .val (.int (1 : Int32)), .val (.ref b15), .val (.int (Int32.ofNat q16)), .unset, .unset] [.null])
      refine own_go (fun t_ k_ => XS.goto X16.here hx rfl (pc0 := 92) (pc' := 102) rfl (hb hby at_92) (by decide) (by decide) k_) ?_
      show own_Go p e below _ T16 (mkF m 102 #[.val (.int y0), .val (.int y1), .val (.int y2), .val (.int y3), .val (.int y4), .val (.int (1 : Int32)), .val (.int (1 : Int32)), .val (.ref b15), .val (.int (Int32.ofNat q16)), .unset, .unset] [.null])
      refine own_go (fun t_ k_ => XS.astore X16.here hx rfl (hb hby at_102) rfl rfl (l' := #[.val (.int y0), .val (.int y1), .val (.int y2), .val (.int y3), .val (.int y4), .val (.int (1 : Int32)), .val (.int (1 : Int32)), .val (.ref b15), .val (.int (Int32.ofNat q16)), .val .null, .unset]) rfl k_) ?_
      show own_Go p e below _ T16 (mkF m 104 #[.val (.int y0), .val (.int y1), .val (.int y2), .val (.int y3), .val (.int y4), .val (.int (1 : Int32)), .val (.int (1 : Int32)), .val (.ref b15), .val (.int (Int32.ofNat q16)), .val .null, .unset] [])
      refine own_go (fun t_ k_ => XS.iload X16.here hx rfl (hb hby at_104) rfl k_) ?_
      show own_Go p e below _ T16 (mkF m 106 #[.val (.int y0), .val (.int y1), .val (.int y2), .val (.int y3), .val (.int y4), .val (.int (1 : Int32)), .val (.int (1 : Int32)), .val (.ref b15), .val (.int (Int32.ofNat q16)), .val .null, .unset] [(.int (1 : Int32))])
      refine own_go (fun t_ k_ => XS.ifNo X16.here hx rfl (hb hby at_106) rfl (XT.i0_eq_f (by decide)) k_) ?_
      show own_Go p e below _ T16 (mkF m 109 #[.val (.int y0), .val (.int y1), .val (.int y2), .val (.int y3), .val (.int y4), .val (.int (1 : Int32)), .val (.int (1 : Int32)), .val (.ref b15), .val (.int (Int32.ofNat q16)), .val .null, .unset] [])
      refine own_go (fun t_ k_ => XS.iload X16.here hx rfl (hb hby at_109) rfl k_) ?_
      show own_Go p e below _ T16 (mkF m 111 #[.val (.int y0), .val (.int y1), .val (.int y2), .val (.int y3), .val (.int y4), .val (.int (1 : Int32)), .val (.int (1 : Int32)), .val (.ref b15), .val (.int (Int32.ofNat q16)), .val .null, .unset] [(.int y4)])
      refine own_go (fun t_ k_ => XS.goto X16.here hx rfl (pc0 := 111) (pc' := 121) rfl (hb hby at_111) (by decide) (by decide) k_) ?_
      show own_Go p e below _ T16 (mkF m 121 #[.val (.int y0), .val (.int y1), .val (.int y2), .val (.int y3), .val (.int y4), .val (.int (1 : Int32)), .val (.int (1 : Int32)), .val (.ref b15), .val (.int (Int32.ofNat q16)), .val .null, .unset] [(.int y4)])
      refine own_go (fun t_ k_ => XS.istore X16.here hx rfl (hb hby at_121) rfl (l' := #[.val (.int y0), .val (.int y1), .val (.int y2), .val (.int y3), .val (.int y4), .val (.int (1 : Int32)), .val (.int (1 : Int32)), .val (.ref b15), .val (.int (Int32.ofNat q16)), .val .null, .val (.int y4)]) rfl k_) ?_
      show own_Go p e below _ T16 (mkF m 123 #[.val (.int y0), .val (.int y1), .val (.int y2), .val (.int y3), .val (.int y4), .val (.int (1 : Int32)), .val (.int (1 : Int32)), .val (.ref b15), .val (.int (Int32.ofNat q16)), .val .null, .val (.int y4)] [])
      obtain ⟨lt17, T17, h17, k17, X17, e17, E17, hS17, hk17, hZ, hown, st17⟩ := own_ldcF (own_wd X16) hx hZ hown (own_w hw 30 rfl) (own_str hw) rfl (own_wS s T16.heap.size) (Nat.le_refl _) (Ls := #[.val (.int y0), .val (.int y1), .val (.int y2), .val (.int y3), .val (.int y4), .val (.int (1 : Int32)), .val (.int (1 : Int32)), .val (.ref b15), .val (.int (Int32.ofNat q16)), .val .null, .val (.int y4)]) (rest := []) (hb hby at_123) 4 (by decide) (by decide) (by decide) (by decide)
      have old17 := old16.ext E17
      refine own_go st17 ?_
      show own_Go p e below _ T17 (mkF m 125 #[.val (.int y0), .val (.int y1), .val (.int y2), .val (.int y3), .val (.int y4), .val (.int (1 : Int32)), .val (.int (1 : Int32)), .val (.ref b15), .val (.int (Int32.ofNat q16)), .val .null, .val (.int y4)] [(.ref lt17)])
      refine own_go (fun t_ k_ => XS.aload X17.here hx rfl (hb hby at_125) rfl rfl k_) ?_
      show own_Go p e below _ T17 (mkF m 127 #[.val (.int y0), .val (.int y1), .val (.int y2), .val (.int y3), .val (.int y4), .val (.int (1 : Int32)), .val (.int (1 : Int32)), .val (.ref b15), .val (.int (Int32.ofNat q16)), .val .null, .val (.int y4)] [.null, (.ref lt17)])
      refine own_go (fun t_ k_ => XS.iload X17.here hx rfl (hb hby at_127) rfl k_) ?_
      show own_Go p e below _ T17 (mkF m 129 #[.val (.int y0), .val (.int y1), .val (.int y2), .val (.int y3), .val (.int y4), .val (.int (1 : Int32)), .val (.int (1 : Int32)), .val (.ref b15), .val (.int (Int32.ofNat q16)), .val .null, .val (.int y4)] [(.int y4), .null, (.ref lt17)])
      obtain ⟨_, T18, L18, X18, ⟨rfl, N18, e18⟩, st18⟩ := own_callS X17 hx hZ (y := (⟨"com/example/lease/lease/service/Sizes", "checkCharacters", "(Ljava/lang/String;Ljava/lang/String;I)V"⟩ : MethodName)) (argsL := [(.ref lt17), .null, (.int y4)]) (rest := []) (Ls := #[.val (.int y0), .val (.int y1), .val (.int y2), .val (.int y3), .val (.int y4), .val (.int (1 : Int32)), .val (.int (1 : Int32)), .val (.ref b15), .val (.int (Int32.ofNat q16)), .val .null, .val (.int y4)]) hown (own_w hw 31 rfl) (own_w hw 32 rfl) (own_w hw 33 rfl) (own_w hw 34 rfl) (by decide) e17 (rmCkN l Z a0 hw [] lt17 y4 h17 n0 (own_oldge old17)) 0 (by decide) (by decide) (by decide) (by decide) (by rw [hml]; rfl) (lenOf pd_11 rfl) rfl (Nat.le_of_eq rfl) (hb hby at_129)
      have M18 := Fr.app M16 N18
      refine own_go st18 ?_
      show own_Go p e below _ T18 (mkF m 132 #[.val (.int y0), .val (.int y1), .val (.int y2), .val (.int y3), .val (.int y4), .val (.int (1 : Int32)), .val (.int (1 : Int32)), .val (.ref b15), .val (.int (Int32.ofNat q16)), .val .null, .val (.int y4)] [])
      refine own_go (fun t_ k_ => XS.iconst X18.here hx rfl (hb hby at_132) k_) ?_
      show own_Go p e below _ T18 (mkF m 133 #[.val (.int y0), .val (.int y1), .val (.int y2), .val (.int y3), .val (.int y4), .val (.int (1 : Int32)), .val (.int (1 : Int32)), .val (.ref b15), .val (.int (Int32.ofNat q16)), .val .null, .val (.int y4)] [(.int (1 : Int32))])
      refine own_retZW X18 hS17 (by rw [e18]; exact hk17) hx hlk hret (hb hby at_133) (Or.inr rfl) (by decide) (by decide) ?_
      exact ⟨rfl, M18⟩
  · rw [q9]
    show own_Go p e below _ T0 (mkF m 5 #[.val (.int y0), .val (.int y1), .val (.int y2), .val (.int y3), .val (.int y4), .val (.int (2 : Int32)), .unset, .unset, .unset, .unset, .unset] [])
    refine own_go (fun t_ k_ => XS.iloadN X0.here hx rfl (hb hby at_5) rfl k_) ?_
    show own_Go p e below _ T0 (mkF m 6 #[.val (.int y0), .val (.int y1), .val (.int y2), .val (.int y3), .val (.int y4), .val (.int (2 : Int32)), .unset, .unset, .unset, .unset, .unset] [(.int y0)])
    refine own_go (fun t_ k_ => XS.sipush X0.here hx rfl (hb hby at_6) k_) ?_
    show own_Go p e below _ T0 (mkF m 9 #[.val (.int y0), .val (.int y1), .val (.int y2), .val (.int y3), .val (.int y4), .val (.int (2 : Int32)), .unset, .unset, .unset, .unset, .unset] [(.int (256 : Int32)), (.int y0)])
    refine own_go (fun t_ k_ => XS.iand X0.here hx rfl (hb hby at_9) rfl k_) ?_
    show own_Go p e below _ T0 (mkF m 10 #[.val (.int y0), .val (.int y1), .val (.int y2), .val (.int y3), .val (.int y4), .val (.int (2 : Int32)), .unset, .unset, .unset, .unset, .unset] [(.int (y0 &&& (256 : Int32)))])
    by_cases hnul : (y0 &&& (256 : Int32)) = 0
    · show own_Go p e below _ T0 (mkF m 10 #[.val (.int y0), .val (.int y1), .val (.int y2), .val (.int y3), .val (.int y4), .val (.int (2 : Int32)), .unset, .unset, .unset, .unset, .unset] [(.int (y0 &&& (256 : Int32)))])
      refine own_go (fun t_ k_ => XS.ifYes X0.here hx rfl (pc0 := 10) (pc' := 17) rfl (hb hby at_10) rfl (XT.i0_eq_t hnul) (by decide) (by decide) k_) ?_
      show own_Go p e below _ T0 (mkF m 17 #[.val (.int y0), .val (.int y1), .val (.int y2), .val (.int y3), .val (.int y4), .val (.int (2 : Int32)), .unset, .unset, .unset, .unset, .unset] [])
      refine own_go (fun t_ k_ => XS.iconst X0.here hx rfl (hb hby at_17) k_) ?_
      show own_Go p e below _ T0 (mkF m 18 #[.val (.int y0), .val (.int y1), .val (.int y2), .val (.int y3), .val (.int y4), .val (.int (2 : Int32)), .unset, .unset, .unset, .unset, .unset] [(.int (0 : Int32))])
      refine own_go (fun t_ k_ => XS.istore X0.here hx rfl (hb hby at_18) rfl (l' := #[.val (.int y0), .val (.int y1), .val (.int y2), .val (.int y3), .val (.int y4), .val (.int (2 : Int32)), .val (.int (0 : Int32)), .unset, .unset, .unset, .unset]) rfl k_) ?_
      show own_Go p e below _ T0 (mkF m 20 #[.val (.int y0), .val (.int y1), .val (.int y2), .val (.int y3), .val (.int y4), .val (.int (2 : Int32)), .val (.int (0 : Int32)), .unset, .unset, .unset, .unset] [])
      refine own_go (fun t_ k_ => XS.bipush X0.here hx rfl (hb hby at_20) k_) ?_
      show own_Go p e below _ T0 (mkF m 22 #[.val (.int y0), .val (.int y1), .val (.int y2), .val (.int y3), .val (.int y4), .val (.int (2 : Int32)), .val (.int (0 : Int32)), .unset, .unset, .unset, .unset] [(.int (6 : Int32))])
      obtain ⟨T19, h19, b19, X19, e19, E19, g19, V19, st19⟩ := own_newCA X0 hx hZ (own_w hw 0 rfl) e0 (Ls := #[.val (.int y0), .val (.int y1), .val (.int y2), .val (.int y3), .val (.int y4), .val (.int (2 : Int32)), .val (.int (0 : Int32)), .unset, .unset, .unset, .unset]) (rest := []) (hb hby at_22) 6 6 (by omega) (by decide) (by decide) (by decide)
      have ge_b19 : n0 ≤ b19 := g19 ▸ own_oldge O0
      have old19 := O0.ext E19
      refine own_go st19 ?_
      show own_Go p e below _ T19 (mkF m 24 #[.val (.int y0), .val (.int y1), .val (.int y2), .val (.int y3), .val (.int y4), .val (.int (2 : Int32)), .val (.int (0 : Int32)), .unset, .unset, .unset, .unset] [(.ref b19)])
      refine own_go (fun t_ k_ => XS.astore X19.here hx rfl (hb hby at_24) rfl rfl (l' := #[.val (.int y0), .val (.int y1), .val (.int y2), .val (.int y3), .val (.int y4), .val (.int (2 : Int32)), .val (.int (0 : Int32)), .val (.ref b19), .unset, .unset, .unset]) rfl k_) ?_
      show own_Go p e below _ T19 (mkF m 26 #[.val (.int y0), .val (.int y1), .val (.int y2), .val (.int y3), .val (.int y4), .val (.int (2 : Int32)), .val (.int (0 : Int32)), .val (.ref b19), .unset, .unset, .unset] [])
      refine own_go (fun t_ k_ => XS.iconst X19.here hx rfl (hb hby at_26) k_) ?_
      show own_Go p e below _ T19 (mkF m 27 #[.val (.int y0), .val (.int y1), .val (.int y2), .val (.int y3), .val (.int y4), .val (.int (2 : Int32)), .val (.int (0 : Int32)), .val (.ref b19), .unset, .unset, .unset] [(.int (0 : Int32))])
      refine own_go (fun t_ k_ => XS.istore X19.here hx rfl (hb hby at_27) rfl (l' := #[.val (.int y0), .val (.int y1), .val (.int y2), .val (.int y3), .val (.int y4), .val (.int (2 : Int32)), .val (.int (0 : Int32)), .val (.ref b19), .val (.int (0 : Int32)), .unset, .unset]) rfl k_) ?_
      show own_Go p e below _ T19 (mkF m 29 #[.val (.int y0), .val (.int y1), .val (.int y2), .val (.int y3), .val (.int y4), .val (.int (2 : Int32)), .val (.int (0 : Int32)), .val (.ref b19), .val (.int (0 : Int32)), .unset, .unset] [])
      refine own_go (fun t_ k_ => XS.iload X19.here hx rfl (hb hby at_29) rfl k_) ?_
      show own_Go p e below _ T19 (mkF m 31 #[.val (.int y0), .val (.int y1), .val (.int y2), .val (.int y3), .val (.int y4), .val (.int (2 : Int32)), .val (.int (0 : Int32)), .val (.ref b19), .val (.int (0 : Int32)), .unset, .unset] [(.int (2 : Int32))])
      refine own_go (fun t_ k_ => XS.ifNo X19.here hx rfl (hb hby at_31) rfl (XT.i0_le_f (by decide)) k_) ?_
      show own_Go p e below _ T19 (mkF m 34 #[.val (.int y0), .val (.int y1), .val (.int y2), .val (.int y3), .val (.int y4), .val (.int (2 : Int32)), .val (.int (0 : Int32)), .val (.ref b19), .val (.int (0 : Int32)), .unset, .unset] [])
      refine own_go (fun t_ k_ => XS.aload X19.here hx rfl (hb hby at_34) rfl rfl k_) ?_
      show own_Go p e below _ T19 (mkF m 36 #[.val (.int y0), .val (.int y1), .val (.int y2), .val (.int y3), .val (.int y4), .val (.int (2 : Int32)), .val (.int (0 : Int32)), .val (.ref b19), .val (.int (0 : Int32)), .unset, .unset] [(.ref b19)])
      refine own_go (fun t_ k_ => XS.iload X19.here hx rfl (hb hby at_36) rfl k_) ?_
      show own_Go p e below _ T19 (mkF m 38 #[.val (.int y0), .val (.int y1), .val (.int y2), .val (.int y3), .val (.int y4), .val (.int (2 : Int32)), .val (.int (0 : Int32)), .val (.ref b19), .val (.int (0 : Int32)), .unset, .unset] [(.int (0 : Int32)), (.ref b19)])
      refine own_go (fun t_ k_ => XS.iloadN X19.here hx rfl (hb hby at_38) rfl k_) ?_
      show own_Go p e below _ T19 (mkF m 39 #[.val (.int y0), .val (.int y1), .val (.int y2), .val (.int y3), .val (.int y4), .val (.int (2 : Int32)), .val (.int (0 : Int32)), .val (.ref b19), .val (.int (0 : Int32)), .unset, .unset] [(.int y0), (.int (0 : Int32)), (.ref b19)])
      refine own_go (fun t_ k_ => XS.iconst X19.here hx rfl (hb hby at_39) k_) ?_
      show own_Go p e below _ T19 (mkF m 40 #[.val (.int y0), .val (.int y1), .val (.int y2), .val (.int y3), .val (.int y4), .val (.int (2 : Int32)), .val (.int (0 : Int32)), .val (.ref b19), .val (.int (0 : Int32)), .unset, .unset] [(.int (2 : Int32)), (.int y0), (.int (0 : Int32)), (.ref b19)])
      refine own_go (fun t_ k_ => XS.iushr X19.here hx rfl (hb hby at_40) rfl k_) ?_
      show own_Go p e below _ T19 (mkF m 41 #[.val (.int y0), .val (.int y1), .val (.int y2), .val (.int y3), .val (.int y4), .val (.int (2 : Int32)), .val (.int (0 : Int32)), .val (.ref b19), .val (.int (0 : Int32)), .unset, .unset] [(.int ((y0.toUInt32 >>> ((2 : Int32) &&& 31).toUInt32).toInt32)), (.int (0 : Int32)), (.ref b19)])
      refine own_go (fun t_ k_ => XS.iloadN X19.here hx rfl (hb hby at_41) rfl k_) ?_
      show own_Go p e below _ T19 (mkF m 42 #[.val (.int y0), .val (.int y1), .val (.int y2), .val (.int y3), .val (.int y4), .val (.int (2 : Int32)), .val (.int (0 : Int32)), .val (.ref b19), .val (.int (0 : Int32)), .unset, .unset] [(.int y1), (.int ((y0.toUInt32 >>> ((2 : Int32) &&& 31).toUInt32).toInt32)), (.int (0 : Int32)), (.ref b19)])
      obtain ⟨_, T20, L20, X20, ⟨⟨q20, f20, rfl, ⟨V20, K20⟩, pc20, ag20, hc20⟩, N20⟩, st20⟩ := own_callS X19 hx hZ (y := (⟨"com/example/lease/lease/service/SizesCheckCharactersPinLaw", "put", "([CIII)I"⟩ : MethodName)) (argsL := [(.ref b19), (.int (0 : Int32)), (.int ((y0.toUInt32 >>> ((2 : Int32) &&& 31).toUInt32).toInt32)), (.int y1)]) (rest := []) (Ls := #[.val (.int y0), .val (.int y1), .val (.int y2), .val (.int y3), .val (.int y4), .val (.int (2 : Int32)), .val (.int (0 : Int32)), .val (.ref b19), .val (.int (0 : Int32)), .unset, .unset]) hown (own_w hw 65 rfl) (own_w hw 66 rfl) (own_w hw 3 rfl) (own_w hw 67 rfl) (by decide) e19 (rmPu l Z a0 hw [] b19 0 (fun (_ : Nat) => (0 : Int32)) ((y0.toUInt32 >>> ((2 : Int32) &&& 31).toUInt32).toInt32) y1 h19 n0 (own_oldge old19) old19 V19 ge_b19 (by omega) own_zC) 0 (by decide) (by decide) (by decide) (by decide) (by rw [hml]; rfl) (lenOf pd_20 rfl) rfl (Nat.le_of_eq rfl) (hb hby at_42)
      have M20 := Fr.app N0 N20
      have old20 := old19.keep K20 (allS ge_b19 all0)
      have rs20 := own_rs_snoc ag20 pc20 _ _ own_rs0
      have le20 := own_pcLe pc20
      refine own_go st20 ?_
      show own_Go p e below _ T20 (mkF m 45 #[.val (.int y0), .val (.int y1), .val (.int y2), .val (.int y3), .val (.int y4), .val (.int (2 : Int32)), .val (.int (0 : Int32)), .val (.ref b19), .val (.int (0 : Int32)), .unset, .unset] [(.int (Int32.ofNat q20))])
      refine own_go (fun t_ k_ => XS.istore X20.here hx rfl (hb hby at_45) rfl (l' := #[.val (.int y0), .val (.int y1), .val (.int y2), .val (.int y3), .val (.int y4), .val (.int (2 : Int32)), .val (.int (0 : Int32)), .val (.ref b19), .val (.int (Int32.ofNat q20)), .unset, .unset]) rfl k_) ?_
      show own_Go p e below _ T20 (mkF m 47 #[.val (.int y0), .val (.int y1), .val (.int y2), .val (.int y3), .val (.int y4), .val (.int (2 : Int32)), .val (.int (0 : Int32)), .val (.ref b19), .val (.int (Int32.ofNat q20)), .unset, .unset] [])
      refine own_go (fun t_ k_ => XS.iload X20.here hx rfl (hb hby at_47) rfl k_) ?_
      show own_Go p e below _ T20 (mkF m 49 #[.val (.int y0), .val (.int y1), .val (.int y2), .val (.int y3), .val (.int y4), .val (.int (2 : Int32)), .val (.int (0 : Int32)), .val (.ref b19), .val (.int (Int32.ofNat q20)), .unset, .unset] [(.int (2 : Int32))])
      refine own_go (fun t_ k_ => XS.iconst X20.here hx rfl (hb hby at_49) k_) ?_
      show own_Go p e below _ T20 (mkF m 50 #[.val (.int y0), .val (.int y1), .val (.int y2), .val (.int y3), .val (.int y4), .val (.int (2 : Int32)), .val (.int (0 : Int32)), .val (.ref b19), .val (.int (Int32.ofNat q20)), .unset, .unset] [(.int (1 : Int32)), (.int (2 : Int32))])
      refine own_go (fun t_ k_ => XS.icmpNo X20.here hx rfl (hb hby at_50) rfl (XT.ii_le_f (by decide)) k_) ?_
      show own_Go p e below _ T20 (mkF m 53 #[.val (.int y0), .val (.int y1), .val (.int y2), .val (.int y3), .val (.int y4), .val (.int (2 : Int32)), .val (.int (0 : Int32)), .val (.ref b19), .val (.int (Int32.ofNat q20)), .unset, .unset] [])
      refine own_go (fun t_ k_ => XS.aload X20.here hx rfl (hb hby at_53) rfl rfl k_) ?_
      show own_Go p e below _ T20 (mkF m 55 #[.val (.int y0), .val (.int y1), .val (.int y2), .val (.int y3), .val (.int y4), .val (.int (2 : Int32)), .val (.int (0 : Int32)), .val (.ref b19), .val (.int (Int32.ofNat q20)), .unset, .unset] [(.ref b19)])
      refine own_go (fun t_ k_ => XS.iload X20.here hx rfl (hb hby at_55) rfl k_) ?_
      show own_Go p e below _ T20 (mkF m 57 #[.val (.int y0), .val (.int y1), .val (.int y2), .val (.int y3), .val (.int y4), .val (.int (2 : Int32)), .val (.int (0 : Int32)), .val (.ref b19), .val (.int (Int32.ofNat q20)), .unset, .unset] [(.int (Int32.ofNat q20)), (.ref b19)])
      refine own_go (fun t_ k_ => XS.iloadN X20.here hx rfl (hb hby at_57) rfl k_) ?_
      show own_Go p e below _ T20 (mkF m 58 #[.val (.int y0), .val (.int y1), .val (.int y2), .val (.int y3), .val (.int y4), .val (.int (2 : Int32)), .val (.int (0 : Int32)), .val (.ref b19), .val (.int (Int32.ofNat q20)), .unset, .unset] [(.int y0), (.int (Int32.ofNat q20)), (.ref b19)])
      refine own_go (fun t_ k_ => XS.iconst X20.here hx rfl (hb hby at_58) k_) ?_
      show own_Go p e below _ T20 (mkF m 59 #[.val (.int y0), .val (.int y1), .val (.int y2), .val (.int y3), .val (.int y4), .val (.int (2 : Int32)), .val (.int (0 : Int32)), .val (.ref b19), .val (.int (Int32.ofNat q20)), .unset, .unset] [(.int (4 : Int32)), (.int y0), (.int (Int32.ofNat q20)), (.ref b19)])
      refine own_go (fun t_ k_ => XS.iushr X20.here hx rfl (hb hby at_59) rfl k_) ?_
      show own_Go p e below _ T20 (mkF m 60 #[.val (.int y0), .val (.int y1), .val (.int y2), .val (.int y3), .val (.int y4), .val (.int (2 : Int32)), .val (.int (0 : Int32)), .val (.ref b19), .val (.int (Int32.ofNat q20)), .unset, .unset] [(.int ((y0.toUInt32 >>> ((4 : Int32) &&& 31).toUInt32).toInt32)), (.int (Int32.ofNat q20)), (.ref b19)])
      refine own_go (fun t_ k_ => XS.iloadN X20.here hx rfl (hb hby at_60) rfl k_) ?_
      show own_Go p e below _ T20 (mkF m 61 #[.val (.int y0), .val (.int y1), .val (.int y2), .val (.int y3), .val (.int y4), .val (.int (2 : Int32)), .val (.int (0 : Int32)), .val (.ref b19), .val (.int (Int32.ofNat q20)), .unset, .unset] [(.int y2), (.int ((y0.toUInt32 >>> ((4 : Int32) &&& 31).toUInt32).toInt32)), (.int (Int32.ofNat q20)), (.ref b19)])
      obtain ⟨_, T21, L21, X21, ⟨⟨q21, f21, rfl, ⟨V21, K21⟩, pc21, ag21, hc21⟩, N21⟩, st21⟩ := own_callS X20 hx hZ (y := (⟨"com/example/lease/lease/service/SizesCheckCharactersPinLaw", "put", "([CIII)I"⟩ : MethodName)) (argsL := [(.ref b19), (.int (Int32.ofNat q20)), (.int ((y0.toUInt32 >>> ((4 : Int32) &&& 31).toUInt32).toInt32)), (.int y2)]) (rest := []) (Ls := #[.val (.int y0), .val (.int y1), .val (.int y2), .val (.int y3), .val (.int y4), .val (.int (2 : Int32)), .val (.int (0 : Int32)), .val (.ref b19), .val (.int (Int32.ofNat q20)), .unset, .unset]) hown (own_w hw 65 rfl) (own_w hw 66 rfl) (own_w hw 3 rfl) (own_w hw 67 rfl) (by decide) rfl (rmPu l Z a0 hw [] b19 q20 f20 ((y0.toUInt32 >>> ((4 : Int32) &&& 31).toUInt32).toInt32) y2 T20.heap n0 (own_oldge old20) old20 V20 ge_b19 (by omega) hc20) 0 (by decide) (by decide) (by decide) (by decide) (by rw [hml]; rfl) (lenOf pd_20 rfl) rfl (Nat.le_of_eq rfl) (hb hby at_61)
      have M21 := Fr.app M20 N21
      have old21 := old20.keep K21 (allS ge_b19 all0)
      have rs21 := own_rs_snoc ag21 pc21 _ _ rs20
      have le21 := own_pcLe pc21
      refine own_go st21 ?_
      show own_Go p e below _ T21 (mkF m 64 #[.val (.int y0), .val (.int y1), .val (.int y2), .val (.int y3), .val (.int y4), .val (.int (2 : Int32)), .val (.int (0 : Int32)), .val (.ref b19), .val (.int (Int32.ofNat q20)), .unset, .unset] [(.int (Int32.ofNat q21))])
      refine own_go (fun t_ k_ => XS.istore X21.here hx rfl (hb hby at_64) rfl (l' := #[.val (.int y0), .val (.int y1), .val (.int y2), .val (.int y3), .val (.int y4), .val (.int (2 : Int32)), .val (.int (0 : Int32)), .val (.ref b19), .val (.int (Int32.ofNat q21)), .unset, .unset]) rfl k_) ?_
      show own_Go p e below _ T21 (mkF m 66 #[.val (.int y0), .val (.int y1), .val (.int y2), .val (.int y3), .val (.int y4), .val (.int (2 : Int32)), .val (.int (0 : Int32)), .val (.ref b19), .val (.int (Int32.ofNat q21)), .unset, .unset] [])
      refine own_go (fun t_ k_ => XS.iload X21.here hx rfl (hb hby at_66) rfl k_) ?_
      show own_Go p e below _ T21 (mkF m 68 #[.val (.int y0), .val (.int y1), .val (.int y2), .val (.int y3), .val (.int y4), .val (.int (2 : Int32)), .val (.int (0 : Int32)), .val (.ref b19), .val (.int (Int32.ofNat q21)), .unset, .unset] [(.int (2 : Int32))])
      refine own_go (fun t_ k_ => XS.iconst X21.here hx rfl (hb hby at_68) k_) ?_
      show own_Go p e below _ T21 (mkF m 69 #[.val (.int y0), .val (.int y1), .val (.int y2), .val (.int y3), .val (.int y4), .val (.int (2 : Int32)), .val (.int (0 : Int32)), .val (.ref b19), .val (.int (Int32.ofNat q21)), .unset, .unset] [(.int (2 : Int32)), (.int (2 : Int32))])
      refine own_go (fun t_ k_ => XS.icmpYes X21.here hx rfl (pc0 := 69) (pc' := 86) rfl (hb hby at_69) rfl (XT.ii_le_t (by decide)) (by decide) (by decide) k_) ?_
      show own_Go p e below _ T21 (mkF m 86 #[.val (.int y0), .val (.int y1), .val (.int y2), .val (.int y3), .val (.int y4), .val (.int (2 : Int32)), .val (.int (0 : Int32)), .val (.ref b19), .val (.int (Int32.ofNat q21)), .unset, .unset] [])
      refine own_go (fun t_ k_ => XS.iload X21.here hx rfl (hb hby at_86) rfl k_) ?_
      show own_Go p e below _ T21 (mkF m 88 #[.val (.int y0), .val (.int y1), .val (.int y2), .val (.int y3), .val (.int y4), .val (.int (2 : Int32)), .val (.int (0 : Int32)), .val (.ref b19), .val (.int (Int32.ofNat q21)), .unset, .unset] [(.int (0 : Int32))])
      refine own_go (fun t_ k_ => XS.ifYes X21.here hx rfl (pc0 := 88) (pc' := 95) rfl (hb hby at_88) rfl (XT.i0_eq_t (by decide)) (by decide) (by decide) k_) ?_
      show own_Go p e below _ T21 (mkF m 95 #[.val (.int y0), .val (.int y1), .val (.int y2), .val (.int y3), .val (.int y4), .val (.int (2 : Int32)), .val (.int (0 : Int32)), .val (.ref b19), .val (.int (Int32.ofNat q21)), .unset, .unset] [])
      refine own_go (fun t_ k_ => XS.aload X21.here hx rfl (hb hby at_95) rfl rfl k_) ?_
      show own_Go p e below _ T21 (mkF m 97 #[.val (.int y0), .val (.int y1), .val (.int y2), .val (.int y3), .val (.int y4), .val (.int (2 : Int32)), .val (.int (0 : Int32)), .val (.ref b19), .val (.int (Int32.ofNat q21)), .unset, .unset] [(.ref b19)])
      refine own_go (fun t_ k_ => XS.iload X21.here hx rfl (hb hby at_97) rfl k_) ?_
      show own_Go p e below _ T21 (mkF m 99 #[.val (.int y0), .val (.int y1), .val (.int y2), .val (.int y3), .val (.int y4), .val (.int (2 : Int32)), .val (.int (0 : Int32)), .val (.ref b19), .val (.int (Int32.ofNat q21)), .unset, .unset] [(.int (Int32.ofNat q21)), (.ref b19)])
      obtain ⟨_, T22, L22, X22, ⟨⟨a22, rfl, str22, old22⟩, N22⟩, hS22, hZ, hown, st22⟩ := own_callSW X21 hx hZH (y := (⟨"com/example/lease/lease/service/SizesCheckCharactersPinLaw", "make", "([CI)Ljava/lang/String;"⟩ : MethodName)) (argsL := [(.ref b19), (.int (Int32.ofNat q21))]) (rest := []) (Ls := #[.val (.int y0), .val (.int y1), .val (.int y2), .val (.int y3), .val (.int y4), .val (.int (2 : Int32)), .val (.int (0 : Int32)), .val (.ref b19), .val (.int (Int32.ofNat q21)), .unset, .unset]) hown (own_w hw 1 rfl) (own_w hw 2 rfl) (own_w hw 3 rfl) (own_w hw 4 rfl) (by decide) rfl (rmMk l Z a0 hw [] b19 q21 f21 cs T21.heap n0 (own_oldge old21) old21 S_ad S_hi S_lo S_cs hcs hH hcw V21 hc21 (by omega)) 0 (by decide) (by decide) (by decide) (by decide) (by rw [hml]; rfl) (lenOf pd_18 rfl) rfl (Nat.le_of_eq rfl) (hb hby at_99)
      have M22 := Fr.app M21 N22
      refine own_go st22 ?_
      show own_Go p e below _ T22 (mkF m 102 #[.val (.int y0), .val (.int y1), .val (.int y2), .val (.int y3), .val (.int y4), .val (.int (2 : Int32)), .val (.int (0 : Int32)), .val (.ref b19), .val (.int (Int32.ofNat q21)), .unset, .unset] [(.ref a22)])
      refine own_go (fun t_ k_ => XS.astore X22.here hx rfl (hb hby at_102) rfl rfl (l' := #[.val (.int y0), .val (.int y1), .val (.int y2), .val (.int y3), .val (.int y4), .val (.int (2 : Int32)), .val (.int (0 : Int32)), .val (.ref b19), .val (.int (Int32.ofNat q21)), .val (.ref a22), .unset]) rfl k_) ?_
      show own_Go p e below _ T22 (mkF m 104 #[.val (.int y0), .val (.int y1), .val (.int y2), .val (.int y3), .val (.int y4), .val (.int (2 : Int32)), .val (.int (0 : Int32)), .val (.ref b19), .val (.int (Int32.ofNat q21)), .val (.ref a22), .unset] [])
      refine own_go (fun t_ k_ => XS.iload X22.here hx rfl (hb hby at_104) rfl k_) ?_
      show own_Go p e below _ T22 (mkF m 106 #[.val (.int y0), .val (.int y1), .val (.int y2), .val (.int y3), .val (.int y4), .val (.int (2 : Int32)), .val (.int (0 : Int32)), .val (.ref b19), .val (.int (Int32.ofNat q21)), .val (.ref a22), .unset] [(.int (0 : Int32))])
      refine own_go (fun t_ k_ => XS.ifYes X22.here hx rfl (pc0 := 106) (pc' := 114) rfl (hb hby at_106) rfl (XT.i0_eq_t (by decide)) (by decide) (by decide) k_) ?_
      show own_Go p e below _ T22 (mkF m 114 #[.val (.int y0), .val (.int y1), .val (.int y2), .val (.int y3), .val (.int y4), .val (.int (2 : Int32)), .val (.int (0 : Int32)), .val (.ref b19), .val (.int (Int32.ofNat q21)), .val (.ref a22), .unset] [])
      refine own_go (fun t_ k_ => XS.iload X22.here hx rfl (hb hby at_114) rfl k_) ?_
      show own_Go p e below _ T22 (mkF m 116 #[.val (.int y0), .val (.int y1), .val (.int y2), .val (.int y3), .val (.int y4), .val (.int (2 : Int32)), .val (.int (0 : Int32)), .val (.ref b19), .val (.int (Int32.ofNat q21)), .val (.ref a22), .unset] [(.int (2 : Int32))])
      refine own_go (fun t_ k_ => XS.iload X22.here hx rfl (hb hby at_116) rfl k_) ?_
      show own_Go p e below _ T22 (mkF m 118 #[.val (.int y0), .val (.int y1), .val (.int y2), .val (.int y3), .val (.int y4), .val (.int (2 : Int32)), .val (.int (0 : Int32)), .val (.ref b19), .val (.int (Int32.ofNat q21)), .val (.ref a22), .unset] [(.int y4), (.int (2 : Int32))])
      obtain ⟨_, T23, L23, X23, ⟨⟨mx23, rfl, hK23⟩, N23, e23⟩, st23⟩ := own_callS X22 hx hZ (y := (⟨"java/lang/Math", "max", "(II)I"⟩ : MethodName)) (argsL := [(.int (2 : Int32)), (.int y4)]) (rest := []) (Ls := #[.val (.int y0), .val (.int y1), .val (.int y2), .val (.int y3), .val (.int y4), .val (.int (2 : Int32)), .val (.int (0 : Int32)), .val (.ref b19), .val (.int (Int32.ofNat q21)), .val (.ref a22), .unset]) hown (own_w hw 26 rfl) (own_w hw 27 rfl) (own_w hw 28 rfl) (own_w hw 29 rfl) (by decide) rfl (rmMax l Z a0 hw [] (2 : Int32) y4 T22.heap n0 (own_oldge old22)) 0 (by decide) (by decide) (by decide) (by decide) (by rw [hml]; rfl) (lenOf pd_7 rfl) rfl (Nat.le_of_eq rfl) (hb hby at_118)
      have M23 := Fr.app M22 N23
      refine own_go st23 ?_
      show own_Go p e below _ T23 (mkF m 121 #[.val (.int y0), .val (.int y1), .val (.int y2), .val (.int y3), .val (.int y4), .val (.int (2 : Int32)), .val (.int (0 : Int32)), .val (.ref b19), .val (.int (Int32.ofNat q21)), .val (.ref a22), .unset] [(.int mx23)])
      refine own_go (fun t_ k_ => XS.istore X23.here hx rfl (hb hby at_121) rfl (l' := #[.val (.int y0), .val (.int y1), .val (.int y2), .val (.int y3), .val (.int y4), .val (.int (2 : Int32)), .val (.int (0 : Int32)), .val (.ref b19), .val (.int (Int32.ofNat q21)), .val (.ref a22), .val (.int mx23)]) rfl k_) ?_
      show own_Go p e below _ T23 (mkF m 123 #[.val (.int y0), .val (.int y1), .val (.int y2), .val (.int y3), .val (.int y4), .val (.int (2 : Int32)), .val (.int (0 : Int32)), .val (.ref b19), .val (.int (Int32.ofNat q21)), .val (.ref a22), .val (.int mx23)] [])
      obtain ⟨lt24, T24, h24, k24, X24, e24, E24, hS24, hk24, hZ, hown, st24⟩ := own_ldcF X23 hx hZ hown (own_w hw 30 rfl) (own_str hw) e23 hS22 (Nat.le_refl _) (Ls := #[.val (.int y0), .val (.int y1), .val (.int y2), .val (.int y3), .val (.int y4), .val (.int (2 : Int32)), .val (.int (0 : Int32)), .val (.ref b19), .val (.int (Int32.ofNat q21)), .val (.ref a22), .val (.int mx23)]) (rest := []) (hb hby at_123) 4 (by decide) (by decide) (by decide) (by decide)
      have old24 := old22.ext E24
      have str_24 := str22.ext E24
      refine own_go st24 ?_
      show own_Go p e below _ T24 (mkF m 125 #[.val (.int y0), .val (.int y1), .val (.int y2), .val (.int y3), .val (.int y4), .val (.int (2 : Int32)), .val (.int (0 : Int32)), .val (.ref b19), .val (.int (Int32.ofNat q21)), .val (.ref a22), .val (.int mx23)] [(.ref lt24)])
      refine own_go (fun t_ k_ => XS.aload X24.here hx rfl (hb hby at_125) rfl rfl k_) ?_
      show own_Go p e below _ T24 (mkF m 127 #[.val (.int y0), .val (.int y1), .val (.int y2), .val (.int y3), .val (.int y4), .val (.int (2 : Int32)), .val (.int (0 : Int32)), .val (.ref b19), .val (.int (Int32.ofNat q21)), .val (.ref a22), .val (.int mx23)] [(.ref a22), (.ref lt24)])
      refine own_go (fun t_ k_ => XS.iload X24.here hx rfl (hb hby at_127) rfl k_) ?_
      show own_Go p e below _ T24 (mkF m 129 #[.val (.int y0), .val (.int y1), .val (.int y2), .val (.int y3), .val (.int y4), .val (.int (2 : Int32)), .val (.int (0 : Int32)), .val (.ref b19), .val (.int (Int32.ofNat q21)), .val (.ref a22), .val (.int mx23)] [(.int mx23), (.ref a22), (.ref lt24)])
      obtain ⟨_, T25, L25, X25, ⟨rfl, N25, e25⟩, st25⟩ := own_callS X24 hx hZ (y := (⟨"com/example/lease/lease/service/Sizes", "checkCharacters", "(Ljava/lang/String;Ljava/lang/String;I)V"⟩ : MethodName)) (argsL := [(.ref lt24), (.ref a22), (.int mx23)]) (rest := []) (Ls := #[.val (.int y0), .val (.int y1), .val (.int y2), .val (.int y3), .val (.int y4), .val (.int (2 : Int32)), .val (.int (0 : Int32)), .val (.ref b19), .val (.int (Int32.ofNat q21)), .val (.ref a22), .val (.int mx23)]) hown (own_w hw 31 rfl) (own_w hw 32 rfl) (own_w hw 33 rfl) (own_w hw 34 rfl) (by decide) e24 (rmCk l Z a0 hw [] lt24 a22 mx23 q21 2 f21 cs h24 n0 (own_oldge old24) old24 S_ad S_hi S_lo S_cs hcs str_24 hc21 (by omega) rs21 hK23) 0 (by decide) (by decide) (by decide) (by decide) (by rw [hml]; rfl) (lenOf pd_11 rfl) rfl (Nat.le_of_eq rfl) (hb hby at_129)
      have M25 := Fr.app M23 N25
      refine own_go st25 ?_
      show own_Go p e below _ T25 (mkF m 132 #[.val (.int y0), .val (.int y1), .val (.int y2), .val (.int y3), .val (.int y4), .val (.int (2 : Int32)), .val (.int (0 : Int32)), .val (.ref b19), .val (.int (Int32.ofNat q21)), .val (.ref a22), .val (.int mx23)] [])
      refine own_go (fun t_ k_ => XS.iconst X25.here hx rfl (hb hby at_132) k_) ?_
      show own_Go p e below _ T25 (mkF m 133 #[.val (.int y0), .val (.int y1), .val (.int y2), .val (.int y3), .val (.int y4), .val (.int (2 : Int32)), .val (.int (0 : Int32)), .val (.ref b19), .val (.int (Int32.ofNat q21)), .val (.ref a22), .val (.int mx23)] [(.int (1 : Int32))])
      refine own_retZW X25 hS24 (by rw [e25]; exact hk24) hx hlk hret (hb hby at_133) (Or.inr rfl) (by decide) (by decide) ?_
      exact ⟨rfl, M25⟩
    · show own_Go p e below _ T0 (mkF m 10 #[.val (.int y0), .val (.int y1), .val (.int y2), .val (.int y3), .val (.int y4), .val (.int (2 : Int32)), .unset, .unset, .unset, .unset, .unset] [(.int (y0 &&& (256 : Int32)))])
      refine own_go (fun t_ k_ => XS.ifNo X0.here hx rfl (hb hby at_10) rfl (XT.i0_eq_f hnul) k_) ?_
      show own_Go p e below _ T0 (mkF m 13 #[.val (.int y0), .val (.int y1), .val (.int y2), .val (.int y3), .val (.int y4), .val (.int (2 : Int32)), .unset, .unset, .unset, .unset, .unset] [])
      refine own_go (fun t_ k_ => XS.iconst X0.here hx rfl (hb hby at_13) k_) ?_
      show own_Go p e below _ T0 (mkF m 14 #[.val (.int y0), .val (.int y1), .val (.int y2), .val (.int y3), .val (.int y4), .val (.int (2 : Int32)), .unset, .unset, .unset, .unset, .unset] [(.int (1 : Int32))])
      refine own_go (fun t_ k_ => XS.goto X0.here hx rfl (pc0 := 14) (pc' := 18) rfl (hb hby at_14) (by decide) (by decide) k_) ?_
      show own_Go p e below _ T0 (mkF m 18 #[.val (.int y0), .val (.int y1), .val (.int y2), .val (.int y3), .val (.int y4), .val (.int (2 : Int32)), .unset, .unset, .unset, .unset, .unset] [(.int (1 : Int32))])
      refine own_go (fun t_ k_ => XS.istore X0.here hx rfl (hb hby at_18) rfl (l' := #[.val (.int y0), .val (.int y1), .val (.int y2), .val (.int y3), .val (.int y4), .val (.int (2 : Int32)), .val (.int (1 : Int32)), .unset, .unset, .unset, .unset]) rfl k_) ?_
      show own_Go p e below _ T0 (mkF m 20 #[.val (.int y0), .val (.int y1), .val (.int y2), .val (.int y3), .val (.int y4), .val (.int (2 : Int32)), .val (.int (1 : Int32)), .unset, .unset, .unset, .unset] [])
      refine own_go (fun t_ k_ => XS.bipush X0.here hx rfl (hb hby at_20) k_) ?_
      show own_Go p e below _ T0 (mkF m 22 #[.val (.int y0), .val (.int y1), .val (.int y2), .val (.int y3), .val (.int y4), .val (.int (2 : Int32)), .val (.int (1 : Int32)), .unset, .unset, .unset, .unset] [(.int (6 : Int32))])
      obtain ⟨T26, h26, b26, X26, e26, E26, g26, V26, st26⟩ := own_newCA X0 hx hZ (own_w hw 0 rfl) e0 (Ls := #[.val (.int y0), .val (.int y1), .val (.int y2), .val (.int y3), .val (.int y4), .val (.int (2 : Int32)), .val (.int (1 : Int32)), .unset, .unset, .unset, .unset]) (rest := []) (hb hby at_22) 6 6 (by omega) (by decide) (by decide) (by decide)
      have ge_b26 : n0 ≤ b26 := g26 ▸ own_oldge O0
      have old26 := O0.ext E26
      refine own_go st26 ?_
      show own_Go p e below _ T26 (mkF m 24 #[.val (.int y0), .val (.int y1), .val (.int y2), .val (.int y3), .val (.int y4), .val (.int (2 : Int32)), .val (.int (1 : Int32)), .unset, .unset, .unset, .unset] [(.ref b26)])
      refine own_go (fun t_ k_ => XS.astore X26.here hx rfl (hb hby at_24) rfl rfl (l' := #[.val (.int y0), .val (.int y1), .val (.int y2), .val (.int y3), .val (.int y4), .val (.int (2 : Int32)), .val (.int (1 : Int32)), .val (.ref b26), .unset, .unset, .unset]) rfl k_) ?_
      show own_Go p e below _ T26 (mkF m 26 #[.val (.int y0), .val (.int y1), .val (.int y2), .val (.int y3), .val (.int y4), .val (.int (2 : Int32)), .val (.int (1 : Int32)), .val (.ref b26), .unset, .unset, .unset] [])
      refine own_go (fun t_ k_ => XS.iconst X26.here hx rfl (hb hby at_26) k_) ?_
      show own_Go p e below _ T26 (mkF m 27 #[.val (.int y0), .val (.int y1), .val (.int y2), .val (.int y3), .val (.int y4), .val (.int (2 : Int32)), .val (.int (1 : Int32)), .val (.ref b26), .unset, .unset, .unset] [(.int (0 : Int32))])
      refine own_go (fun t_ k_ => XS.istore X26.here hx rfl (hb hby at_27) rfl (l' := #[.val (.int y0), .val (.int y1), .val (.int y2), .val (.int y3), .val (.int y4), .val (.int (2 : Int32)), .val (.int (1 : Int32)), .val (.ref b26), .val (.int (0 : Int32)), .unset, .unset]) rfl k_) ?_
      show own_Go p e below _ T26 (mkF m 29 #[.val (.int y0), .val (.int y1), .val (.int y2), .val (.int y3), .val (.int y4), .val (.int (2 : Int32)), .val (.int (1 : Int32)), .val (.ref b26), .val (.int (0 : Int32)), .unset, .unset] [])
      refine own_go (fun t_ k_ => XS.iload X26.here hx rfl (hb hby at_29) rfl k_) ?_
      show own_Go p e below _ T26 (mkF m 31 #[.val (.int y0), .val (.int y1), .val (.int y2), .val (.int y3), .val (.int y4), .val (.int (2 : Int32)), .val (.int (1 : Int32)), .val (.ref b26), .val (.int (0 : Int32)), .unset, .unset] [(.int (2 : Int32))])
      refine own_go (fun t_ k_ => XS.ifNo X26.here hx rfl (hb hby at_31) rfl (XT.i0_le_f (by decide)) k_) ?_
      show own_Go p e below _ T26 (mkF m 34 #[.val (.int y0), .val (.int y1), .val (.int y2), .val (.int y3), .val (.int y4), .val (.int (2 : Int32)), .val (.int (1 : Int32)), .val (.ref b26), .val (.int (0 : Int32)), .unset, .unset] [])
      refine own_go (fun t_ k_ => XS.aload X26.here hx rfl (hb hby at_34) rfl rfl k_) ?_
      show own_Go p e below _ T26 (mkF m 36 #[.val (.int y0), .val (.int y1), .val (.int y2), .val (.int y3), .val (.int y4), .val (.int (2 : Int32)), .val (.int (1 : Int32)), .val (.ref b26), .val (.int (0 : Int32)), .unset, .unset] [(.ref b26)])
      refine own_go (fun t_ k_ => XS.iload X26.here hx rfl (hb hby at_36) rfl k_) ?_
      show own_Go p e below _ T26 (mkF m 38 #[.val (.int y0), .val (.int y1), .val (.int y2), .val (.int y3), .val (.int y4), .val (.int (2 : Int32)), .val (.int (1 : Int32)), .val (.ref b26), .val (.int (0 : Int32)), .unset, .unset] [(.int (0 : Int32)), (.ref b26)])
      refine own_go (fun t_ k_ => XS.iloadN X26.here hx rfl (hb hby at_38) rfl k_) ?_
      show own_Go p e below _ T26 (mkF m 39 #[.val (.int y0), .val (.int y1), .val (.int y2), .val (.int y3), .val (.int y4), .val (.int (2 : Int32)), .val (.int (1 : Int32)), .val (.ref b26), .val (.int (0 : Int32)), .unset, .unset] [(.int y0), (.int (0 : Int32)), (.ref b26)])
      refine own_go (fun t_ k_ => XS.iconst X26.here hx rfl (hb hby at_39) k_) ?_
      show own_Go p e below _ T26 (mkF m 40 #[.val (.int y0), .val (.int y1), .val (.int y2), .val (.int y3), .val (.int y4), .val (.int (2 : Int32)), .val (.int (1 : Int32)), .val (.ref b26), .val (.int (0 : Int32)), .unset, .unset] [(.int (2 : Int32)), (.int y0), (.int (0 : Int32)), (.ref b26)])
      refine own_go (fun t_ k_ => XS.iushr X26.here hx rfl (hb hby at_40) rfl k_) ?_
      show own_Go p e below _ T26 (mkF m 41 #[.val (.int y0), .val (.int y1), .val (.int y2), .val (.int y3), .val (.int y4), .val (.int (2 : Int32)), .val (.int (1 : Int32)), .val (.ref b26), .val (.int (0 : Int32)), .unset, .unset] [(.int ((y0.toUInt32 >>> ((2 : Int32) &&& 31).toUInt32).toInt32)), (.int (0 : Int32)), (.ref b26)])
      refine own_go (fun t_ k_ => XS.iloadN X26.here hx rfl (hb hby at_41) rfl k_) ?_
      show own_Go p e below _ T26 (mkF m 42 #[.val (.int y0), .val (.int y1), .val (.int y2), .val (.int y3), .val (.int y4), .val (.int (2 : Int32)), .val (.int (1 : Int32)), .val (.ref b26), .val (.int (0 : Int32)), .unset, .unset] [(.int y1), (.int ((y0.toUInt32 >>> ((2 : Int32) &&& 31).toUInt32).toInt32)), (.int (0 : Int32)), (.ref b26)])
      obtain ⟨_, T27, L27, X27, ⟨⟨q27, f27, rfl, ⟨V27, K27⟩, pc27, ag27, hc27⟩, N27⟩, st27⟩ := own_callS X26 hx hZ (y := (⟨"com/example/lease/lease/service/SizesCheckCharactersPinLaw", "put", "([CIII)I"⟩ : MethodName)) (argsL := [(.ref b26), (.int (0 : Int32)), (.int ((y0.toUInt32 >>> ((2 : Int32) &&& 31).toUInt32).toInt32)), (.int y1)]) (rest := []) (Ls := #[.val (.int y0), .val (.int y1), .val (.int y2), .val (.int y3), .val (.int y4), .val (.int (2 : Int32)), .val (.int (1 : Int32)), .val (.ref b26), .val (.int (0 : Int32)), .unset, .unset]) hown (own_w hw 65 rfl) (own_w hw 66 rfl) (own_w hw 3 rfl) (own_w hw 67 rfl) (by decide) e26 (rmPu l Z a0 hw [] b26 0 (fun (_ : Nat) => (0 : Int32)) ((y0.toUInt32 >>> ((2 : Int32) &&& 31).toUInt32).toInt32) y1 h26 n0 (own_oldge old26) old26 V26 ge_b26 (by omega) own_zC) 0 (by decide) (by decide) (by decide) (by decide) (by rw [hml]; rfl) (lenOf pd_20 rfl) rfl (Nat.le_of_eq rfl) (hb hby at_42)
      have M27 := Fr.app N0 N27
      have old27 := old26.keep K27 (allS ge_b26 all0)
      have rs27 := own_rs_snoc ag27 pc27 _ _ own_rs0
      have le27 := own_pcLe pc27
      refine own_go st27 ?_
      show own_Go p e below _ T27 (mkF m 45 #[.val (.int y0), .val (.int y1), .val (.int y2), .val (.int y3), .val (.int y4), .val (.int (2 : Int32)), .val (.int (1 : Int32)), .val (.ref b26), .val (.int (0 : Int32)), .unset, .unset] [(.int (Int32.ofNat q27))])
      refine own_go (fun t_ k_ => XS.istore X27.here hx rfl (hb hby at_45) rfl (l' := #[.val (.int y0), .val (.int y1), .val (.int y2), .val (.int y3), .val (.int y4), .val (.int (2 : Int32)), .val (.int (1 : Int32)), .val (.ref b26), .val (.int (Int32.ofNat q27)), .unset, .unset]) rfl k_) ?_
      show own_Go p e below _ T27 (mkF m 47 #[.val (.int y0), .val (.int y1), .val (.int y2), .val (.int y3), .val (.int y4), .val (.int (2 : Int32)), .val (.int (1 : Int32)), .val (.ref b26), .val (.int (Int32.ofNat q27)), .unset, .unset] [])
      refine own_go (fun t_ k_ => XS.iload X27.here hx rfl (hb hby at_47) rfl k_) ?_
      show own_Go p e below _ T27 (mkF m 49 #[.val (.int y0), .val (.int y1), .val (.int y2), .val (.int y3), .val (.int y4), .val (.int (2 : Int32)), .val (.int (1 : Int32)), .val (.ref b26), .val (.int (Int32.ofNat q27)), .unset, .unset] [(.int (2 : Int32))])
      refine own_go (fun t_ k_ => XS.iconst X27.here hx rfl (hb hby at_49) k_) ?_
      show own_Go p e below _ T27 (mkF m 50 #[.val (.int y0), .val (.int y1), .val (.int y2), .val (.int y3), .val (.int y4), .val (.int (2 : Int32)), .val (.int (1 : Int32)), .val (.ref b26), .val (.int (Int32.ofNat q27)), .unset, .unset] [(.int (1 : Int32)), (.int (2 : Int32))])
      refine own_go (fun t_ k_ => XS.icmpNo X27.here hx rfl (hb hby at_50) rfl (XT.ii_le_f (by decide)) k_) ?_
      show own_Go p e below _ T27 (mkF m 53 #[.val (.int y0), .val (.int y1), .val (.int y2), .val (.int y3), .val (.int y4), .val (.int (2 : Int32)), .val (.int (1 : Int32)), .val (.ref b26), .val (.int (Int32.ofNat q27)), .unset, .unset] [])
      refine own_go (fun t_ k_ => XS.aload X27.here hx rfl (hb hby at_53) rfl rfl k_) ?_
      show own_Go p e below _ T27 (mkF m 55 #[.val (.int y0), .val (.int y1), .val (.int y2), .val (.int y3), .val (.int y4), .val (.int (2 : Int32)), .val (.int (1 : Int32)), .val (.ref b26), .val (.int (Int32.ofNat q27)), .unset, .unset] [(.ref b26)])
      refine own_go (fun t_ k_ => XS.iload X27.here hx rfl (hb hby at_55) rfl k_) ?_
      show own_Go p e below _ T27 (mkF m 57 #[.val (.int y0), .val (.int y1), .val (.int y2), .val (.int y3), .val (.int y4), .val (.int (2 : Int32)), .val (.int (1 : Int32)), .val (.ref b26), .val (.int (Int32.ofNat q27)), .unset, .unset] [(.int (Int32.ofNat q27)), (.ref b26)])
      refine own_go (fun t_ k_ => XS.iloadN X27.here hx rfl (hb hby at_57) rfl k_) ?_
      show own_Go p e below _ T27 (mkF m 58 #[.val (.int y0), .val (.int y1), .val (.int y2), .val (.int y3), .val (.int y4), .val (.int (2 : Int32)), .val (.int (1 : Int32)), .val (.ref b26), .val (.int (Int32.ofNat q27)), .unset, .unset] [(.int y0), (.int (Int32.ofNat q27)), (.ref b26)])
      refine own_go (fun t_ k_ => XS.iconst X27.here hx rfl (hb hby at_58) k_) ?_
      show own_Go p e below _ T27 (mkF m 59 #[.val (.int y0), .val (.int y1), .val (.int y2), .val (.int y3), .val (.int y4), .val (.int (2 : Int32)), .val (.int (1 : Int32)), .val (.ref b26), .val (.int (Int32.ofNat q27)), .unset, .unset] [(.int (4 : Int32)), (.int y0), (.int (Int32.ofNat q27)), (.ref b26)])
      refine own_go (fun t_ k_ => XS.iushr X27.here hx rfl (hb hby at_59) rfl k_) ?_
      show own_Go p e below _ T27 (mkF m 60 #[.val (.int y0), .val (.int y1), .val (.int y2), .val (.int y3), .val (.int y4), .val (.int (2 : Int32)), .val (.int (1 : Int32)), .val (.ref b26), .val (.int (Int32.ofNat q27)), .unset, .unset] [(.int ((y0.toUInt32 >>> ((4 : Int32) &&& 31).toUInt32).toInt32)), (.int (Int32.ofNat q27)), (.ref b26)])
      refine own_go (fun t_ k_ => XS.iloadN X27.here hx rfl (hb hby at_60) rfl k_) ?_
      show own_Go p e below _ T27 (mkF m 61 #[.val (.int y0), .val (.int y1), .val (.int y2), .val (.int y3), .val (.int y4), .val (.int (2 : Int32)), .val (.int (1 : Int32)), .val (.ref b26), .val (.int (Int32.ofNat q27)), .unset, .unset] [(.int y2), (.int ((y0.toUInt32 >>> ((4 : Int32) &&& 31).toUInt32).toInt32)), (.int (Int32.ofNat q27)), (.ref b26)])
      obtain ⟨_, T28, L28, X28, ⟨⟨q28, f28, rfl, ⟨V28, K28⟩, pc28, ag28, hc28⟩, N28⟩, st28⟩ := own_callS X27 hx hZ (y := (⟨"com/example/lease/lease/service/SizesCheckCharactersPinLaw", "put", "([CIII)I"⟩ : MethodName)) (argsL := [(.ref b26), (.int (Int32.ofNat q27)), (.int ((y0.toUInt32 >>> ((4 : Int32) &&& 31).toUInt32).toInt32)), (.int y2)]) (rest := []) (Ls := #[.val (.int y0), .val (.int y1), .val (.int y2), .val (.int y3), .val (.int y4), .val (.int (2 : Int32)), .val (.int (1 : Int32)), .val (.ref b26), .val (.int (Int32.ofNat q27)), .unset, .unset]) hown (own_w hw 65 rfl) (own_w hw 66 rfl) (own_w hw 3 rfl) (own_w hw 67 rfl) (by decide) rfl (rmPu l Z a0 hw [] b26 q27 f27 ((y0.toUInt32 >>> ((4 : Int32) &&& 31).toUInt32).toInt32) y2 T27.heap n0 (own_oldge old27) old27 V27 ge_b26 (by omega) hc27) 0 (by decide) (by decide) (by decide) (by decide) (by rw [hml]; rfl) (lenOf pd_20 rfl) rfl (Nat.le_of_eq rfl) (hb hby at_61)
      have M28 := Fr.app M27 N28
      have old28 := old27.keep K28 (allS ge_b26 all0)
      have rs28 := own_rs_snoc ag28 pc28 _ _ rs27
      have le28 := own_pcLe pc28
      refine own_go st28 ?_
      show own_Go p e below _ T28 (mkF m 64 #[.val (.int y0), .val (.int y1), .val (.int y2), .val (.int y3), .val (.int y4), .val (.int (2 : Int32)), .val (.int (1 : Int32)), .val (.ref b26), .val (.int (Int32.ofNat q27)), .unset, .unset] [(.int (Int32.ofNat q28))])
      refine own_go (fun t_ k_ => XS.istore X28.here hx rfl (hb hby at_64) rfl (l' := #[.val (.int y0), .val (.int y1), .val (.int y2), .val (.int y3), .val (.int y4), .val (.int (2 : Int32)), .val (.int (1 : Int32)), .val (.ref b26), .val (.int (Int32.ofNat q28)), .unset, .unset]) rfl k_) ?_
      show own_Go p e below _ T28 (mkF m 66 #[.val (.int y0), .val (.int y1), .val (.int y2), .val (.int y3), .val (.int y4), .val (.int (2 : Int32)), .val (.int (1 : Int32)), .val (.ref b26), .val (.int (Int32.ofNat q28)), .unset, .unset] [])
      refine own_go (fun t_ k_ => XS.iload X28.here hx rfl (hb hby at_66) rfl k_) ?_
      show own_Go p e below _ T28 (mkF m 68 #[.val (.int y0), .val (.int y1), .val (.int y2), .val (.int y3), .val (.int y4), .val (.int (2 : Int32)), .val (.int (1 : Int32)), .val (.ref b26), .val (.int (Int32.ofNat q28)), .unset, .unset] [(.int (2 : Int32))])
      refine own_go (fun t_ k_ => XS.iconst X28.here hx rfl (hb hby at_68) k_) ?_
      show own_Go p e below _ T28 (mkF m 69 #[.val (.int y0), .val (.int y1), .val (.int y2), .val (.int y3), .val (.int y4), .val (.int (2 : Int32)), .val (.int (1 : Int32)), .val (.ref b26), .val (.int (Int32.ofNat q28)), .unset, .unset] [(.int (2 : Int32)), (.int (2 : Int32))])
      refine own_go (fun t_ k_ => XS.icmpYes X28.here hx rfl (pc0 := 69) (pc' := 86) rfl (hb hby at_69) rfl (XT.ii_le_t (by decide)) (by decide) (by decide) k_) ?_
      show own_Go p e below _ T28 (mkF m 86 #[.val (.int y0), .val (.int y1), .val (.int y2), .val (.int y3), .val (.int y4), .val (.int (2 : Int32)), .val (.int (1 : Int32)), .val (.ref b26), .val (.int (Int32.ofNat q28)), .unset, .unset] [])
      refine own_go (fun t_ k_ => XS.iload X28.here hx rfl (hb hby at_86) rfl k_) ?_
      show own_Go p e below _ T28 (mkF m 88 #[.val (.int y0), .val (.int y1), .val (.int y2), .val (.int y3), .val (.int y4), .val (.int (2 : Int32)), .val (.int (1 : Int32)), .val (.ref b26), .val (.int (Int32.ofNat q28)), .unset, .unset] [(.int (1 : Int32))])
      refine own_go (fun t_ k_ => XS.ifNo X28.here hx rfl (hb hby at_88) rfl (XT.i0_eq_f (by decide)) k_) ?_
      show own_Go p e below _ T28 (mkF m 91 #[.val (.int y0), .val (.int y1), .val (.int y2), .val (.int y3), .val (.int y4), .val (.int (2 : Int32)), .val (.int (1 : Int32)), .val (.ref b26), .val (.int (Int32.ofNat q28)), .unset, .unset] [])
      refine own_go (fun t_ k_ => XS.aconstNull X28.here hx rfl (hb hby at_91) k_) ?_
      show own_Go p e below _ T28 (mkF m 92 #[.val (.int y0), .val (.int y1), .val (.int y2), .val (.int y3), .val (.int y4), .val (.int (2 : Int32)), .val (.int (1 : Int32)), .val (.ref b26), .val (.int (Int32.ofNat q28)), .unset, .unset] [.null])
      refine own_go (fun t_ k_ => XS.goto X28.here hx rfl (pc0 := 92) (pc' := 102) rfl (hb hby at_92) (by decide) (by decide) k_) ?_
      show own_Go p e below _ T28 (mkF m 102 #[.val (.int y0), .val (.int y1), .val (.int y2), .val (.int y3), .val (.int y4), .val (.int (2 : Int32)), .val (.int (1 : Int32)), .val (.ref b26), .val (.int (Int32.ofNat q28)), .unset, .unset] [.null])
      refine own_go (fun t_ k_ => XS.astore X28.here hx rfl (hb hby at_102) rfl rfl (l' := #[.val (.int y0), .val (.int y1), .val (.int y2), .val (.int y3), .val (.int y4), .val (.int (2 : Int32)), .val (.int (1 : Int32)), .val (.ref b26), .val (.int (Int32.ofNat q28)), .val .null, .unset]) rfl k_) ?_
      show own_Go p e below _ T28 (mkF m 104 #[.val (.int y0), .val (.int y1), .val (.int y2), .val (.int y3), .val (.int y4), .val (.int (2 : Int32)), .val (.int (1 : Int32)), .val (.ref b26), .val (.int (Int32.ofNat q28)), .val .null, .unset] [])
      refine own_go (fun t_ k_ => XS.iload X28.here hx rfl (hb hby at_104) rfl k_) ?_
      show own_Go p e below _ T28 (mkF m 106 #[.val (.int y0), .val (.int y1), .val (.int y2), .val (.int y3), .val (.int y4), .val (.int (2 : Int32)), .val (.int (1 : Int32)), .val (.ref b26), .val (.int (Int32.ofNat q28)), .val .null, .unset] [(.int (1 : Int32))])
      refine own_go (fun t_ k_ => XS.ifNo X28.here hx rfl (hb hby at_106) rfl (XT.i0_eq_f (by decide)) k_) ?_
      show own_Go p e below _ T28 (mkF m 109 #[.val (.int y0), .val (.int y1), .val (.int y2), .val (.int y3), .val (.int y4), .val (.int (2 : Int32)), .val (.int (1 : Int32)), .val (.ref b26), .val (.int (Int32.ofNat q28)), .val .null, .unset] [])
      refine own_go (fun t_ k_ => XS.iload X28.here hx rfl (hb hby at_109) rfl k_) ?_
      show own_Go p e below _ T28 (mkF m 111 #[.val (.int y0), .val (.int y1), .val (.int y2), .val (.int y3), .val (.int y4), .val (.int (2 : Int32)), .val (.int (1 : Int32)), .val (.ref b26), .val (.int (Int32.ofNat q28)), .val .null, .unset] [(.int y4)])
      refine own_go (fun t_ k_ => XS.goto X28.here hx rfl (pc0 := 111) (pc' := 121) rfl (hb hby at_111) (by decide) (by decide) k_) ?_
      show own_Go p e below _ T28 (mkF m 121 #[.val (.int y0), .val (.int y1), .val (.int y2), .val (.int y3), .val (.int y4), .val (.int (2 : Int32)), .val (.int (1 : Int32)), .val (.ref b26), .val (.int (Int32.ofNat q28)), .val .null, .unset] [(.int y4)])
      refine own_go (fun t_ k_ => XS.istore X28.here hx rfl (hb hby at_121) rfl (l' := #[.val (.int y0), .val (.int y1), .val (.int y2), .val (.int y3), .val (.int y4), .val (.int (2 : Int32)), .val (.int (1 : Int32)), .val (.ref b26), .val (.int (Int32.ofNat q28)), .val .null, .val (.int y4)]) rfl k_) ?_
      show own_Go p e below _ T28 (mkF m 123 #[.val (.int y0), .val (.int y1), .val (.int y2), .val (.int y3), .val (.int y4), .val (.int (2 : Int32)), .val (.int (1 : Int32)), .val (.ref b26), .val (.int (Int32.ofNat q28)), .val .null, .val (.int y4)] [])
      obtain ⟨lt29, T29, h29, k29, X29, e29, E29, hS29, hk29, hZ, hown, st29⟩ := own_ldcF (own_wd X28) hx hZ hown (own_w hw 30 rfl) (own_str hw) rfl (own_wS s T28.heap.size) (Nat.le_refl _) (Ls := #[.val (.int y0), .val (.int y1), .val (.int y2), .val (.int y3), .val (.int y4), .val (.int (2 : Int32)), .val (.int (1 : Int32)), .val (.ref b26), .val (.int (Int32.ofNat q28)), .val .null, .val (.int y4)]) (rest := []) (hb hby at_123) 4 (by decide) (by decide) (by decide) (by decide)
      have old29 := old28.ext E29
      refine own_go st29 ?_
      show own_Go p e below _ T29 (mkF m 125 #[.val (.int y0), .val (.int y1), .val (.int y2), .val (.int y3), .val (.int y4), .val (.int (2 : Int32)), .val (.int (1 : Int32)), .val (.ref b26), .val (.int (Int32.ofNat q28)), .val .null, .val (.int y4)] [(.ref lt29)])
      refine own_go (fun t_ k_ => XS.aload X29.here hx rfl (hb hby at_125) rfl rfl k_) ?_
      show own_Go p e below _ T29 (mkF m 127 #[.val (.int y0), .val (.int y1), .val (.int y2), .val (.int y3), .val (.int y4), .val (.int (2 : Int32)), .val (.int (1 : Int32)), .val (.ref b26), .val (.int (Int32.ofNat q28)), .val .null, .val (.int y4)] [.null, (.ref lt29)])
      refine own_go (fun t_ k_ => XS.iload X29.here hx rfl (hb hby at_127) rfl k_) ?_
      show own_Go p e below _ T29 (mkF m 129 #[.val (.int y0), .val (.int y1), .val (.int y2), .val (.int y3), .val (.int y4), .val (.int (2 : Int32)), .val (.int (1 : Int32)), .val (.ref b26), .val (.int (Int32.ofNat q28)), .val .null, .val (.int y4)] [(.int y4), .null, (.ref lt29)])
      obtain ⟨_, T30, L30, X30, ⟨rfl, N30, e30⟩, st30⟩ := own_callS X29 hx hZ (y := (⟨"com/example/lease/lease/service/Sizes", "checkCharacters", "(Ljava/lang/String;Ljava/lang/String;I)V"⟩ : MethodName)) (argsL := [(.ref lt29), .null, (.int y4)]) (rest := []) (Ls := #[.val (.int y0), .val (.int y1), .val (.int y2), .val (.int y3), .val (.int y4), .val (.int (2 : Int32)), .val (.int (1 : Int32)), .val (.ref b26), .val (.int (Int32.ofNat q28)), .val .null, .val (.int y4)]) hown (own_w hw 31 rfl) (own_w hw 32 rfl) (own_w hw 33 rfl) (own_w hw 34 rfl) (by decide) e29 (rmCkN l Z a0 hw [] lt29 y4 h29 n0 (own_oldge old29)) 0 (by decide) (by decide) (by decide) (by decide) (by rw [hml]; rfl) (lenOf pd_11 rfl) rfl (Nat.le_of_eq rfl) (hb hby at_129)
      have M30 := Fr.app M28 N30
      refine own_go st30 ?_
      show own_Go p e below _ T30 (mkF m 132 #[.val (.int y0), .val (.int y1), .val (.int y2), .val (.int y3), .val (.int y4), .val (.int (2 : Int32)), .val (.int (1 : Int32)), .val (.ref b26), .val (.int (Int32.ofNat q28)), .val .null, .val (.int y4)] [])
      refine own_go (fun t_ k_ => XS.iconst X30.here hx rfl (hb hby at_132) k_) ?_
      show own_Go p e below _ T30 (mkF m 133 #[.val (.int y0), .val (.int y1), .val (.int y2), .val (.int y3), .val (.int y4), .val (.int (2 : Int32)), .val (.int (1 : Int32)), .val (.ref b26), .val (.int (Int32.ofNat q28)), .val .null, .val (.int y4)] [(.int (1 : Int32))])
      refine own_retZW X30 hS29 (by rw [e30]; exact hk29) hx hlk hret (hb hby at_133) (Or.inr rfl) (by decide) (by decide) ?_
      exact ⟨rfl, M30⟩
  · rw [q9]
    show own_Go p e below _ T0 (mkF m 5 #[.val (.int y0), .val (.int y1), .val (.int y2), .val (.int y3), .val (.int y4), .val (.int (3 : Int32)), .unset, .unset, .unset, .unset, .unset] [])
    refine own_go (fun t_ k_ => XS.iloadN X0.here hx rfl (hb hby at_5) rfl k_) ?_
    show own_Go p e below _ T0 (mkF m 6 #[.val (.int y0), .val (.int y1), .val (.int y2), .val (.int y3), .val (.int y4), .val (.int (3 : Int32)), .unset, .unset, .unset, .unset, .unset] [(.int y0)])
    refine own_go (fun t_ k_ => XS.sipush X0.here hx rfl (hb hby at_6) k_) ?_
    show own_Go p e below _ T0 (mkF m 9 #[.val (.int y0), .val (.int y1), .val (.int y2), .val (.int y3), .val (.int y4), .val (.int (3 : Int32)), .unset, .unset, .unset, .unset, .unset] [(.int (256 : Int32)), (.int y0)])
    refine own_go (fun t_ k_ => XS.iand X0.here hx rfl (hb hby at_9) rfl k_) ?_
    show own_Go p e below _ T0 (mkF m 10 #[.val (.int y0), .val (.int y1), .val (.int y2), .val (.int y3), .val (.int y4), .val (.int (3 : Int32)), .unset, .unset, .unset, .unset, .unset] [(.int (y0 &&& (256 : Int32)))])
    by_cases hnul : (y0 &&& (256 : Int32)) = 0
    · show own_Go p e below _ T0 (mkF m 10 #[.val (.int y0), .val (.int y1), .val (.int y2), .val (.int y3), .val (.int y4), .val (.int (3 : Int32)), .unset, .unset, .unset, .unset, .unset] [(.int (y0 &&& (256 : Int32)))])
      refine own_go (fun t_ k_ => XS.ifYes X0.here hx rfl (pc0 := 10) (pc' := 17) rfl (hb hby at_10) rfl (XT.i0_eq_t hnul) (by decide) (by decide) k_) ?_
      show own_Go p e below _ T0 (mkF m 17 #[.val (.int y0), .val (.int y1), .val (.int y2), .val (.int y3), .val (.int y4), .val (.int (3 : Int32)), .unset, .unset, .unset, .unset, .unset] [])
      refine own_go (fun t_ k_ => XS.iconst X0.here hx rfl (hb hby at_17) k_) ?_
      show own_Go p e below _ T0 (mkF m 18 #[.val (.int y0), .val (.int y1), .val (.int y2), .val (.int y3), .val (.int y4), .val (.int (3 : Int32)), .unset, .unset, .unset, .unset, .unset] [(.int (0 : Int32))])
      refine own_go (fun t_ k_ => XS.istore X0.here hx rfl (hb hby at_18) rfl (l' := #[.val (.int y0), .val (.int y1), .val (.int y2), .val (.int y3), .val (.int y4), .val (.int (3 : Int32)), .val (.int (0 : Int32)), .unset, .unset, .unset, .unset]) rfl k_) ?_
      show own_Go p e below _ T0 (mkF m 20 #[.val (.int y0), .val (.int y1), .val (.int y2), .val (.int y3), .val (.int y4), .val (.int (3 : Int32)), .val (.int (0 : Int32)), .unset, .unset, .unset, .unset] [])
      refine own_go (fun t_ k_ => XS.bipush X0.here hx rfl (hb hby at_20) k_) ?_
      show own_Go p e below _ T0 (mkF m 22 #[.val (.int y0), .val (.int y1), .val (.int y2), .val (.int y3), .val (.int y4), .val (.int (3 : Int32)), .val (.int (0 : Int32)), .unset, .unset, .unset, .unset] [(.int (6 : Int32))])
      obtain ⟨T31, h31, b31, X31, e31, E31, g31, V31, st31⟩ := own_newCA X0 hx hZ (own_w hw 0 rfl) e0 (Ls := #[.val (.int y0), .val (.int y1), .val (.int y2), .val (.int y3), .val (.int y4), .val (.int (3 : Int32)), .val (.int (0 : Int32)), .unset, .unset, .unset, .unset]) (rest := []) (hb hby at_22) 6 6 (by omega) (by decide) (by decide) (by decide)
      have ge_b31 : n0 ≤ b31 := g31 ▸ own_oldge O0
      have old31 := O0.ext E31
      refine own_go st31 ?_
      show own_Go p e below _ T31 (mkF m 24 #[.val (.int y0), .val (.int y1), .val (.int y2), .val (.int y3), .val (.int y4), .val (.int (3 : Int32)), .val (.int (0 : Int32)), .unset, .unset, .unset, .unset] [(.ref b31)])
      refine own_go (fun t_ k_ => XS.astore X31.here hx rfl (hb hby at_24) rfl rfl (l' := #[.val (.int y0), .val (.int y1), .val (.int y2), .val (.int y3), .val (.int y4), .val (.int (3 : Int32)), .val (.int (0 : Int32)), .val (.ref b31), .unset, .unset, .unset]) rfl k_) ?_
      show own_Go p e below _ T31 (mkF m 26 #[.val (.int y0), .val (.int y1), .val (.int y2), .val (.int y3), .val (.int y4), .val (.int (3 : Int32)), .val (.int (0 : Int32)), .val (.ref b31), .unset, .unset, .unset] [])
      refine own_go (fun t_ k_ => XS.iconst X31.here hx rfl (hb hby at_26) k_) ?_
      show own_Go p e below _ T31 (mkF m 27 #[.val (.int y0), .val (.int y1), .val (.int y2), .val (.int y3), .val (.int y4), .val (.int (3 : Int32)), .val (.int (0 : Int32)), .val (.ref b31), .unset, .unset, .unset] [(.int (0 : Int32))])
      refine own_go (fun t_ k_ => XS.istore X31.here hx rfl (hb hby at_27) rfl (l' := #[.val (.int y0), .val (.int y1), .val (.int y2), .val (.int y3), .val (.int y4), .val (.int (3 : Int32)), .val (.int (0 : Int32)), .val (.ref b31), .val (.int (0 : Int32)), .unset, .unset]) rfl k_) ?_
      show own_Go p e below _ T31 (mkF m 29 #[.val (.int y0), .val (.int y1), .val (.int y2), .val (.int y3), .val (.int y4), .val (.int (3 : Int32)), .val (.int (0 : Int32)), .val (.ref b31), .val (.int (0 : Int32)), .unset, .unset] [])
      refine own_go (fun t_ k_ => XS.iload X31.here hx rfl (hb hby at_29) rfl k_) ?_
      show own_Go p e below _ T31 (mkF m 31 #[.val (.int y0), .val (.int y1), .val (.int y2), .val (.int y3), .val (.int y4), .val (.int (3 : Int32)), .val (.int (0 : Int32)), .val (.ref b31), .val (.int (0 : Int32)), .unset, .unset] [(.int (3 : Int32))])
      refine own_go (fun t_ k_ => XS.ifNo X31.here hx rfl (hb hby at_31) rfl (XT.i0_le_f (by decide)) k_) ?_
      show own_Go p e below _ T31 (mkF m 34 #[.val (.int y0), .val (.int y1), .val (.int y2), .val (.int y3), .val (.int y4), .val (.int (3 : Int32)), .val (.int (0 : Int32)), .val (.ref b31), .val (.int (0 : Int32)), .unset, .unset] [])
      refine own_go (fun t_ k_ => XS.aload X31.here hx rfl (hb hby at_34) rfl rfl k_) ?_
      show own_Go p e below _ T31 (mkF m 36 #[.val (.int y0), .val (.int y1), .val (.int y2), .val (.int y3), .val (.int y4), .val (.int (3 : Int32)), .val (.int (0 : Int32)), .val (.ref b31), .val (.int (0 : Int32)), .unset, .unset] [(.ref b31)])
      refine own_go (fun t_ k_ => XS.iload X31.here hx rfl (hb hby at_36) rfl k_) ?_
      show own_Go p e below _ T31 (mkF m 38 #[.val (.int y0), .val (.int y1), .val (.int y2), .val (.int y3), .val (.int y4), .val (.int (3 : Int32)), .val (.int (0 : Int32)), .val (.ref b31), .val (.int (0 : Int32)), .unset, .unset] [(.int (0 : Int32)), (.ref b31)])
      refine own_go (fun t_ k_ => XS.iloadN X31.here hx rfl (hb hby at_38) rfl k_) ?_
      show own_Go p e below _ T31 (mkF m 39 #[.val (.int y0), .val (.int y1), .val (.int y2), .val (.int y3), .val (.int y4), .val (.int (3 : Int32)), .val (.int (0 : Int32)), .val (.ref b31), .val (.int (0 : Int32)), .unset, .unset] [(.int y0), (.int (0 : Int32)), (.ref b31)])
      refine own_go (fun t_ k_ => XS.iconst X31.here hx rfl (hb hby at_39) k_) ?_
      show own_Go p e below _ T31 (mkF m 40 #[.val (.int y0), .val (.int y1), .val (.int y2), .val (.int y3), .val (.int y4), .val (.int (3 : Int32)), .val (.int (0 : Int32)), .val (.ref b31), .val (.int (0 : Int32)), .unset, .unset] [(.int (2 : Int32)), (.int y0), (.int (0 : Int32)), (.ref b31)])
      refine own_go (fun t_ k_ => XS.iushr X31.here hx rfl (hb hby at_40) rfl k_) ?_
      show own_Go p e below _ T31 (mkF m 41 #[.val (.int y0), .val (.int y1), .val (.int y2), .val (.int y3), .val (.int y4), .val (.int (3 : Int32)), .val (.int (0 : Int32)), .val (.ref b31), .val (.int (0 : Int32)), .unset, .unset] [(.int ((y0.toUInt32 >>> ((2 : Int32) &&& 31).toUInt32).toInt32)), (.int (0 : Int32)), (.ref b31)])
      refine own_go (fun t_ k_ => XS.iloadN X31.here hx rfl (hb hby at_41) rfl k_) ?_
      show own_Go p e below _ T31 (mkF m 42 #[.val (.int y0), .val (.int y1), .val (.int y2), .val (.int y3), .val (.int y4), .val (.int (3 : Int32)), .val (.int (0 : Int32)), .val (.ref b31), .val (.int (0 : Int32)), .unset, .unset] [(.int y1), (.int ((y0.toUInt32 >>> ((2 : Int32) &&& 31).toUInt32).toInt32)), (.int (0 : Int32)), (.ref b31)])
      obtain ⟨_, T32, L32, X32, ⟨⟨q32, f32, rfl, ⟨V32, K32⟩, pc32, ag32, hc32⟩, N32⟩, st32⟩ := own_callS X31 hx hZ (y := (⟨"com/example/lease/lease/service/SizesCheckCharactersPinLaw", "put", "([CIII)I"⟩ : MethodName)) (argsL := [(.ref b31), (.int (0 : Int32)), (.int ((y0.toUInt32 >>> ((2 : Int32) &&& 31).toUInt32).toInt32)), (.int y1)]) (rest := []) (Ls := #[.val (.int y0), .val (.int y1), .val (.int y2), .val (.int y3), .val (.int y4), .val (.int (3 : Int32)), .val (.int (0 : Int32)), .val (.ref b31), .val (.int (0 : Int32)), .unset, .unset]) hown (own_w hw 65 rfl) (own_w hw 66 rfl) (own_w hw 3 rfl) (own_w hw 67 rfl) (by decide) e31 (rmPu l Z a0 hw [] b31 0 (fun (_ : Nat) => (0 : Int32)) ((y0.toUInt32 >>> ((2 : Int32) &&& 31).toUInt32).toInt32) y1 h31 n0 (own_oldge old31) old31 V31 ge_b31 (by omega) own_zC) 0 (by decide) (by decide) (by decide) (by decide) (by rw [hml]; rfl) (lenOf pd_20 rfl) rfl (Nat.le_of_eq rfl) (hb hby at_42)
      have M32 := Fr.app N0 N32
      have old32 := old31.keep K32 (allS ge_b31 all0)
      have rs32 := own_rs_snoc ag32 pc32 _ _ own_rs0
      have le32 := own_pcLe pc32
      refine own_go st32 ?_
      show own_Go p e below _ T32 (mkF m 45 #[.val (.int y0), .val (.int y1), .val (.int y2), .val (.int y3), .val (.int y4), .val (.int (3 : Int32)), .val (.int (0 : Int32)), .val (.ref b31), .val (.int (0 : Int32)), .unset, .unset] [(.int (Int32.ofNat q32))])
      refine own_go (fun t_ k_ => XS.istore X32.here hx rfl (hb hby at_45) rfl (l' := #[.val (.int y0), .val (.int y1), .val (.int y2), .val (.int y3), .val (.int y4), .val (.int (3 : Int32)), .val (.int (0 : Int32)), .val (.ref b31), .val (.int (Int32.ofNat q32)), .unset, .unset]) rfl k_) ?_
      show own_Go p e below _ T32 (mkF m 47 #[.val (.int y0), .val (.int y1), .val (.int y2), .val (.int y3), .val (.int y4), .val (.int (3 : Int32)), .val (.int (0 : Int32)), .val (.ref b31), .val (.int (Int32.ofNat q32)), .unset, .unset] [])
      refine own_go (fun t_ k_ => XS.iload X32.here hx rfl (hb hby at_47) rfl k_) ?_
      show own_Go p e below _ T32 (mkF m 49 #[.val (.int y0), .val (.int y1), .val (.int y2), .val (.int y3), .val (.int y4), .val (.int (3 : Int32)), .val (.int (0 : Int32)), .val (.ref b31), .val (.int (Int32.ofNat q32)), .unset, .unset] [(.int (3 : Int32))])
      refine own_go (fun t_ k_ => XS.iconst X32.here hx rfl (hb hby at_49) k_) ?_
      show own_Go p e below _ T32 (mkF m 50 #[.val (.int y0), .val (.int y1), .val (.int y2), .val (.int y3), .val (.int y4), .val (.int (3 : Int32)), .val (.int (0 : Int32)), .val (.ref b31), .val (.int (Int32.ofNat q32)), .unset, .unset] [(.int (1 : Int32)), (.int (3 : Int32))])
      refine own_go (fun t_ k_ => XS.icmpNo X32.here hx rfl (hb hby at_50) rfl (XT.ii_le_f (by decide)) k_) ?_
      show own_Go p e below _ T32 (mkF m 53 #[.val (.int y0), .val (.int y1), .val (.int y2), .val (.int y3), .val (.int y4), .val (.int (3 : Int32)), .val (.int (0 : Int32)), .val (.ref b31), .val (.int (Int32.ofNat q32)), .unset, .unset] [])
      refine own_go (fun t_ k_ => XS.aload X32.here hx rfl (hb hby at_53) rfl rfl k_) ?_
      show own_Go p e below _ T32 (mkF m 55 #[.val (.int y0), .val (.int y1), .val (.int y2), .val (.int y3), .val (.int y4), .val (.int (3 : Int32)), .val (.int (0 : Int32)), .val (.ref b31), .val (.int (Int32.ofNat q32)), .unset, .unset] [(.ref b31)])
      refine own_go (fun t_ k_ => XS.iload X32.here hx rfl (hb hby at_55) rfl k_) ?_
      show own_Go p e below _ T32 (mkF m 57 #[.val (.int y0), .val (.int y1), .val (.int y2), .val (.int y3), .val (.int y4), .val (.int (3 : Int32)), .val (.int (0 : Int32)), .val (.ref b31), .val (.int (Int32.ofNat q32)), .unset, .unset] [(.int (Int32.ofNat q32)), (.ref b31)])
      refine own_go (fun t_ k_ => XS.iloadN X32.here hx rfl (hb hby at_57) rfl k_) ?_
      show own_Go p e below _ T32 (mkF m 58 #[.val (.int y0), .val (.int y1), .val (.int y2), .val (.int y3), .val (.int y4), .val (.int (3 : Int32)), .val (.int (0 : Int32)), .val (.ref b31), .val (.int (Int32.ofNat q32)), .unset, .unset] [(.int y0), (.int (Int32.ofNat q32)), (.ref b31)])
      refine own_go (fun t_ k_ => XS.iconst X32.here hx rfl (hb hby at_58) k_) ?_
      show own_Go p e below _ T32 (mkF m 59 #[.val (.int y0), .val (.int y1), .val (.int y2), .val (.int y3), .val (.int y4), .val (.int (3 : Int32)), .val (.int (0 : Int32)), .val (.ref b31), .val (.int (Int32.ofNat q32)), .unset, .unset] [(.int (4 : Int32)), (.int y0), (.int (Int32.ofNat q32)), (.ref b31)])
      refine own_go (fun t_ k_ => XS.iushr X32.here hx rfl (hb hby at_59) rfl k_) ?_
      show own_Go p e below _ T32 (mkF m 60 #[.val (.int y0), .val (.int y1), .val (.int y2), .val (.int y3), .val (.int y4), .val (.int (3 : Int32)), .val (.int (0 : Int32)), .val (.ref b31), .val (.int (Int32.ofNat q32)), .unset, .unset] [(.int ((y0.toUInt32 >>> ((4 : Int32) &&& 31).toUInt32).toInt32)), (.int (Int32.ofNat q32)), (.ref b31)])
      refine own_go (fun t_ k_ => XS.iloadN X32.here hx rfl (hb hby at_60) rfl k_) ?_
      show own_Go p e below _ T32 (mkF m 61 #[.val (.int y0), .val (.int y1), .val (.int y2), .val (.int y3), .val (.int y4), .val (.int (3 : Int32)), .val (.int (0 : Int32)), .val (.ref b31), .val (.int (Int32.ofNat q32)), .unset, .unset] [(.int y2), (.int ((y0.toUInt32 >>> ((4 : Int32) &&& 31).toUInt32).toInt32)), (.int (Int32.ofNat q32)), (.ref b31)])
      obtain ⟨_, T33, L33, X33, ⟨⟨q33, f33, rfl, ⟨V33, K33⟩, pc33, ag33, hc33⟩, N33⟩, st33⟩ := own_callS X32 hx hZ (y := (⟨"com/example/lease/lease/service/SizesCheckCharactersPinLaw", "put", "([CIII)I"⟩ : MethodName)) (argsL := [(.ref b31), (.int (Int32.ofNat q32)), (.int ((y0.toUInt32 >>> ((4 : Int32) &&& 31).toUInt32).toInt32)), (.int y2)]) (rest := []) (Ls := #[.val (.int y0), .val (.int y1), .val (.int y2), .val (.int y3), .val (.int y4), .val (.int (3 : Int32)), .val (.int (0 : Int32)), .val (.ref b31), .val (.int (Int32.ofNat q32)), .unset, .unset]) hown (own_w hw 65 rfl) (own_w hw 66 rfl) (own_w hw 3 rfl) (own_w hw 67 rfl) (by decide) rfl (rmPu l Z a0 hw [] b31 q32 f32 ((y0.toUInt32 >>> ((4 : Int32) &&& 31).toUInt32).toInt32) y2 T32.heap n0 (own_oldge old32) old32 V32 ge_b31 (by omega) hc32) 0 (by decide) (by decide) (by decide) (by decide) (by rw [hml]; rfl) (lenOf pd_20 rfl) rfl (Nat.le_of_eq rfl) (hb hby at_61)
      have M33 := Fr.app M32 N33
      have old33 := old32.keep K33 (allS ge_b31 all0)
      have rs33 := own_rs_snoc ag33 pc33 _ _ rs32
      have le33 := own_pcLe pc33
      refine own_go st33 ?_
      show own_Go p e below _ T33 (mkF m 64 #[.val (.int y0), .val (.int y1), .val (.int y2), .val (.int y3), .val (.int y4), .val (.int (3 : Int32)), .val (.int (0 : Int32)), .val (.ref b31), .val (.int (Int32.ofNat q32)), .unset, .unset] [(.int (Int32.ofNat q33))])
      refine own_go (fun t_ k_ => XS.istore X33.here hx rfl (hb hby at_64) rfl (l' := #[.val (.int y0), .val (.int y1), .val (.int y2), .val (.int y3), .val (.int y4), .val (.int (3 : Int32)), .val (.int (0 : Int32)), .val (.ref b31), .val (.int (Int32.ofNat q33)), .unset, .unset]) rfl k_) ?_
      show own_Go p e below _ T33 (mkF m 66 #[.val (.int y0), .val (.int y1), .val (.int y2), .val (.int y3), .val (.int y4), .val (.int (3 : Int32)), .val (.int (0 : Int32)), .val (.ref b31), .val (.int (Int32.ofNat q33)), .unset, .unset] [])
      refine own_go (fun t_ k_ => XS.iload X33.here hx rfl (hb hby at_66) rfl k_) ?_
      show own_Go p e below _ T33 (mkF m 68 #[.val (.int y0), .val (.int y1), .val (.int y2), .val (.int y3), .val (.int y4), .val (.int (3 : Int32)), .val (.int (0 : Int32)), .val (.ref b31), .val (.int (Int32.ofNat q33)), .unset, .unset] [(.int (3 : Int32))])
      refine own_go (fun t_ k_ => XS.iconst X33.here hx rfl (hb hby at_68) k_) ?_
      show own_Go p e below _ T33 (mkF m 69 #[.val (.int y0), .val (.int y1), .val (.int y2), .val (.int y3), .val (.int y4), .val (.int (3 : Int32)), .val (.int (0 : Int32)), .val (.ref b31), .val (.int (Int32.ofNat q33)), .unset, .unset] [(.int (2 : Int32)), (.int (3 : Int32))])
      refine own_go (fun t_ k_ => XS.icmpNo X33.here hx rfl (hb hby at_69) rfl (XT.ii_le_f (by decide)) k_) ?_
      show own_Go p e below _ T33 (mkF m 72 #[.val (.int y0), .val (.int y1), .val (.int y2), .val (.int y3), .val (.int y4), .val (.int (3 : Int32)), .val (.int (0 : Int32)), .val (.ref b31), .val (.int (Int32.ofNat q33)), .unset, .unset] [])
      refine own_go (fun t_ k_ => XS.aload X33.here hx rfl (hb hby at_72) rfl rfl k_) ?_
      show own_Go p e below _ T33 (mkF m 74 #[.val (.int y0), .val (.int y1), .val (.int y2), .val (.int y3), .val (.int y4), .val (.int (3 : Int32)), .val (.int (0 : Int32)), .val (.ref b31), .val (.int (Int32.ofNat q33)), .unset, .unset] [(.ref b31)])
      refine own_go (fun t_ k_ => XS.iload X33.here hx rfl (hb hby at_74) rfl k_) ?_
      show own_Go p e below _ T33 (mkF m 76 #[.val (.int y0), .val (.int y1), .val (.int y2), .val (.int y3), .val (.int y4), .val (.int (3 : Int32)), .val (.int (0 : Int32)), .val (.ref b31), .val (.int (Int32.ofNat q33)), .unset, .unset] [(.int (Int32.ofNat q33)), (.ref b31)])
      refine own_go (fun t_ k_ => XS.iloadN X33.here hx rfl (hb hby at_76) rfl k_) ?_
      show own_Go p e below _ T33 (mkF m 77 #[.val (.int y0), .val (.int y1), .val (.int y2), .val (.int y3), .val (.int y4), .val (.int (3 : Int32)), .val (.int (0 : Int32)), .val (.ref b31), .val (.int (Int32.ofNat q33)), .unset, .unset] [(.int y0), (.int (Int32.ofNat q33)), (.ref b31)])
      refine own_go (fun t_ k_ => XS.bipush X33.here hx rfl (hb hby at_77) k_) ?_
      show own_Go p e below _ T33 (mkF m 79 #[.val (.int y0), .val (.int y1), .val (.int y2), .val (.int y3), .val (.int y4), .val (.int (3 : Int32)), .val (.int (0 : Int32)), .val (.ref b31), .val (.int (Int32.ofNat q33)), .unset, .unset] [(.int (6 : Int32)), (.int y0), (.int (Int32.ofNat q33)), (.ref b31)])
      refine own_go (fun t_ k_ => XS.iushr X33.here hx rfl (hb hby at_79) rfl k_) ?_
      show own_Go p e below _ T33 (mkF m 80 #[.val (.int y0), .val (.int y1), .val (.int y2), .val (.int y3), .val (.int y4), .val (.int (3 : Int32)), .val (.int (0 : Int32)), .val (.ref b31), .val (.int (Int32.ofNat q33)), .unset, .unset] [(.int ((y0.toUInt32 >>> ((6 : Int32) &&& 31).toUInt32).toInt32)), (.int (Int32.ofNat q33)), (.ref b31)])
      refine own_go (fun t_ k_ => XS.iloadN X33.here hx rfl (hb hby at_80) rfl k_) ?_
      show own_Go p e below _ T33 (mkF m 81 #[.val (.int y0), .val (.int y1), .val (.int y2), .val (.int y3), .val (.int y4), .val (.int (3 : Int32)), .val (.int (0 : Int32)), .val (.ref b31), .val (.int (Int32.ofNat q33)), .unset, .unset] [(.int y3), (.int ((y0.toUInt32 >>> ((6 : Int32) &&& 31).toUInt32).toInt32)), (.int (Int32.ofNat q33)), (.ref b31)])
      obtain ⟨_, T34, L34, X34, ⟨⟨q34, f34, rfl, ⟨V34, K34⟩, pc34, ag34, hc34⟩, N34⟩, st34⟩ := own_callS X33 hx hZ (y := (⟨"com/example/lease/lease/service/SizesCheckCharactersPinLaw", "put", "([CIII)I"⟩ : MethodName)) (argsL := [(.ref b31), (.int (Int32.ofNat q33)), (.int ((y0.toUInt32 >>> ((6 : Int32) &&& 31).toUInt32).toInt32)), (.int y3)]) (rest := []) (Ls := #[.val (.int y0), .val (.int y1), .val (.int y2), .val (.int y3), .val (.int y4), .val (.int (3 : Int32)), .val (.int (0 : Int32)), .val (.ref b31), .val (.int (Int32.ofNat q33)), .unset, .unset]) hown (own_w hw 65 rfl) (own_w hw 66 rfl) (own_w hw 3 rfl) (own_w hw 67 rfl) (by decide) rfl (rmPu l Z a0 hw [] b31 q33 f33 ((y0.toUInt32 >>> ((6 : Int32) &&& 31).toUInt32).toInt32) y3 T33.heap n0 (own_oldge old33) old33 V33 ge_b31 (by omega) hc33) 0 (by decide) (by decide) (by decide) (by decide) (by rw [hml]; rfl) (lenOf pd_20 rfl) rfl (Nat.le_of_eq rfl) (hb hby at_81)
      have M34 := Fr.app M33 N34
      have old34 := old33.keep K34 (allS ge_b31 all0)
      have rs34 := own_rs_snoc ag34 pc34 _ _ rs33
      have le34 := own_pcLe pc34
      refine own_go st34 ?_
      show own_Go p e below _ T34 (mkF m 84 #[.val (.int y0), .val (.int y1), .val (.int y2), .val (.int y3), .val (.int y4), .val (.int (3 : Int32)), .val (.int (0 : Int32)), .val (.ref b31), .val (.int (Int32.ofNat q33)), .unset, .unset] [(.int (Int32.ofNat q34))])
      refine own_go (fun t_ k_ => XS.istore X34.here hx rfl (hb hby at_84) rfl (l' := #[.val (.int y0), .val (.int y1), .val (.int y2), .val (.int y3), .val (.int y4), .val (.int (3 : Int32)), .val (.int (0 : Int32)), .val (.ref b31), .val (.int (Int32.ofNat q34)), .unset, .unset]) rfl k_) ?_
      show own_Go p e below _ T34 (mkF m 86 #[.val (.int y0), .val (.int y1), .val (.int y2), .val (.int y3), .val (.int y4), .val (.int (3 : Int32)), .val (.int (0 : Int32)), .val (.ref b31), .val (.int (Int32.ofNat q34)), .unset, .unset] [])
      refine own_go (fun t_ k_ => XS.iload X34.here hx rfl (hb hby at_86) rfl k_) ?_
      show own_Go p e below _ T34 (mkF m 88 #[.val (.int y0), .val (.int y1), .val (.int y2), .val (.int y3), .val (.int y4), .val (.int (3 : Int32)), .val (.int (0 : Int32)), .val (.ref b31), .val (.int (Int32.ofNat q34)), .unset, .unset] [(.int (0 : Int32))])
      refine own_go (fun t_ k_ => XS.ifYes X34.here hx rfl (pc0 := 88) (pc' := 95) rfl (hb hby at_88) rfl (XT.i0_eq_t (by decide)) (by decide) (by decide) k_) ?_
      show own_Go p e below _ T34 (mkF m 95 #[.val (.int y0), .val (.int y1), .val (.int y2), .val (.int y3), .val (.int y4), .val (.int (3 : Int32)), .val (.int (0 : Int32)), .val (.ref b31), .val (.int (Int32.ofNat q34)), .unset, .unset] [])
      refine own_go (fun t_ k_ => XS.aload X34.here hx rfl (hb hby at_95) rfl rfl k_) ?_
      show own_Go p e below _ T34 (mkF m 97 #[.val (.int y0), .val (.int y1), .val (.int y2), .val (.int y3), .val (.int y4), .val (.int (3 : Int32)), .val (.int (0 : Int32)), .val (.ref b31), .val (.int (Int32.ofNat q34)), .unset, .unset] [(.ref b31)])
      refine own_go (fun t_ k_ => XS.iload X34.here hx rfl (hb hby at_97) rfl k_) ?_
      show own_Go p e below _ T34 (mkF m 99 #[.val (.int y0), .val (.int y1), .val (.int y2), .val (.int y3), .val (.int y4), .val (.int (3 : Int32)), .val (.int (0 : Int32)), .val (.ref b31), .val (.int (Int32.ofNat q34)), .unset, .unset] [(.int (Int32.ofNat q34)), (.ref b31)])
      obtain ⟨_, T35, L35, X35, ⟨⟨a35, rfl, str35, old35⟩, N35⟩, hS35, hZ, hown, st35⟩ := own_callSW X34 hx hZH (y := (⟨"com/example/lease/lease/service/SizesCheckCharactersPinLaw", "make", "([CI)Ljava/lang/String;"⟩ : MethodName)) (argsL := [(.ref b31), (.int (Int32.ofNat q34))]) (rest := []) (Ls := #[.val (.int y0), .val (.int y1), .val (.int y2), .val (.int y3), .val (.int y4), .val (.int (3 : Int32)), .val (.int (0 : Int32)), .val (.ref b31), .val (.int (Int32.ofNat q34)), .unset, .unset]) hown (own_w hw 1 rfl) (own_w hw 2 rfl) (own_w hw 3 rfl) (own_w hw 4 rfl) (by decide) rfl (rmMk l Z a0 hw [] b31 q34 f34 cs T34.heap n0 (own_oldge old34) old34 S_ad S_hi S_lo S_cs hcs hH hcw V34 hc34 (by omega)) 0 (by decide) (by decide) (by decide) (by decide) (by rw [hml]; rfl) (lenOf pd_18 rfl) rfl (Nat.le_of_eq rfl) (hb hby at_99)
      have M35 := Fr.app M34 N35
      refine own_go st35 ?_
      show own_Go p e below _ T35 (mkF m 102 #[.val (.int y0), .val (.int y1), .val (.int y2), .val (.int y3), .val (.int y4), .val (.int (3 : Int32)), .val (.int (0 : Int32)), .val (.ref b31), .val (.int (Int32.ofNat q34)), .unset, .unset] [(.ref a35)])
      refine own_go (fun t_ k_ => XS.astore X35.here hx rfl (hb hby at_102) rfl rfl (l' := #[.val (.int y0), .val (.int y1), .val (.int y2), .val (.int y3), .val (.int y4), .val (.int (3 : Int32)), .val (.int (0 : Int32)), .val (.ref b31), .val (.int (Int32.ofNat q34)), .val (.ref a35), .unset]) rfl k_) ?_
      show own_Go p e below _ T35 (mkF m 104 #[.val (.int y0), .val (.int y1), .val (.int y2), .val (.int y3), .val (.int y4), .val (.int (3 : Int32)), .val (.int (0 : Int32)), .val (.ref b31), .val (.int (Int32.ofNat q34)), .val (.ref a35), .unset] [])
      refine own_go (fun t_ k_ => XS.iload X35.here hx rfl (hb hby at_104) rfl k_) ?_
      show own_Go p e below _ T35 (mkF m 106 #[.val (.int y0), .val (.int y1), .val (.int y2), .val (.int y3), .val (.int y4), .val (.int (3 : Int32)), .val (.int (0 : Int32)), .val (.ref b31), .val (.int (Int32.ofNat q34)), .val (.ref a35), .unset] [(.int (0 : Int32))])
      refine own_go (fun t_ k_ => XS.ifYes X35.here hx rfl (pc0 := 106) (pc' := 114) rfl (hb hby at_106) rfl (XT.i0_eq_t (by decide)) (by decide) (by decide) k_) ?_
      show own_Go p e below _ T35 (mkF m 114 #[.val (.int y0), .val (.int y1), .val (.int y2), .val (.int y3), .val (.int y4), .val (.int (3 : Int32)), .val (.int (0 : Int32)), .val (.ref b31), .val (.int (Int32.ofNat q34)), .val (.ref a35), .unset] [])
      refine own_go (fun t_ k_ => XS.iload X35.here hx rfl (hb hby at_114) rfl k_) ?_
      show own_Go p e below _ T35 (mkF m 116 #[.val (.int y0), .val (.int y1), .val (.int y2), .val (.int y3), .val (.int y4), .val (.int (3 : Int32)), .val (.int (0 : Int32)), .val (.ref b31), .val (.int (Int32.ofNat q34)), .val (.ref a35), .unset] [(.int (3 : Int32))])
      refine own_go (fun t_ k_ => XS.iload X35.here hx rfl (hb hby at_116) rfl k_) ?_
      show own_Go p e below _ T35 (mkF m 118 #[.val (.int y0), .val (.int y1), .val (.int y2), .val (.int y3), .val (.int y4), .val (.int (3 : Int32)), .val (.int (0 : Int32)), .val (.ref b31), .val (.int (Int32.ofNat q34)), .val (.ref a35), .unset] [(.int y4), (.int (3 : Int32))])
      obtain ⟨_, T36, L36, X36, ⟨⟨mx36, rfl, hK36⟩, N36, e36⟩, st36⟩ := own_callS X35 hx hZ (y := (⟨"java/lang/Math", "max", "(II)I"⟩ : MethodName)) (argsL := [(.int (3 : Int32)), (.int y4)]) (rest := []) (Ls := #[.val (.int y0), .val (.int y1), .val (.int y2), .val (.int y3), .val (.int y4), .val (.int (3 : Int32)), .val (.int (0 : Int32)), .val (.ref b31), .val (.int (Int32.ofNat q34)), .val (.ref a35), .unset]) hown (own_w hw 26 rfl) (own_w hw 27 rfl) (own_w hw 28 rfl) (own_w hw 29 rfl) (by decide) rfl (rmMax l Z a0 hw [] (3 : Int32) y4 T35.heap n0 (own_oldge old35)) 0 (by decide) (by decide) (by decide) (by decide) (by rw [hml]; rfl) (lenOf pd_7 rfl) rfl (Nat.le_of_eq rfl) (hb hby at_118)
      have M36 := Fr.app M35 N36
      refine own_go st36 ?_
      show own_Go p e below _ T36 (mkF m 121 #[.val (.int y0), .val (.int y1), .val (.int y2), .val (.int y3), .val (.int y4), .val (.int (3 : Int32)), .val (.int (0 : Int32)), .val (.ref b31), .val (.int (Int32.ofNat q34)), .val (.ref a35), .unset] [(.int mx36)])
      refine own_go (fun t_ k_ => XS.istore X36.here hx rfl (hb hby at_121) rfl (l' := #[.val (.int y0), .val (.int y1), .val (.int y2), .val (.int y3), .val (.int y4), .val (.int (3 : Int32)), .val (.int (0 : Int32)), .val (.ref b31), .val (.int (Int32.ofNat q34)), .val (.ref a35), .val (.int mx36)]) rfl k_) ?_
      show own_Go p e below _ T36 (mkF m 123 #[.val (.int y0), .val (.int y1), .val (.int y2), .val (.int y3), .val (.int y4), .val (.int (3 : Int32)), .val (.int (0 : Int32)), .val (.ref b31), .val (.int (Int32.ofNat q34)), .val (.ref a35), .val (.int mx36)] [])
      obtain ⟨lt37, T37, h37, k37, X37, e37, E37, hS37, hk37, hZ, hown, st37⟩ := own_ldcF X36 hx hZ hown (own_w hw 30 rfl) (own_str hw) e36 hS35 (Nat.le_refl _) (Ls := #[.val (.int y0), .val (.int y1), .val (.int y2), .val (.int y3), .val (.int y4), .val (.int (3 : Int32)), .val (.int (0 : Int32)), .val (.ref b31), .val (.int (Int32.ofNat q34)), .val (.ref a35), .val (.int mx36)]) (rest := []) (hb hby at_123) 4 (by decide) (by decide) (by decide) (by decide)
      have old37 := old35.ext E37
      have str_37 := str35.ext E37
      refine own_go st37 ?_
      show own_Go p e below _ T37 (mkF m 125 #[.val (.int y0), .val (.int y1), .val (.int y2), .val (.int y3), .val (.int y4), .val (.int (3 : Int32)), .val (.int (0 : Int32)), .val (.ref b31), .val (.int (Int32.ofNat q34)), .val (.ref a35), .val (.int mx36)] [(.ref lt37)])
      refine own_go (fun t_ k_ => XS.aload X37.here hx rfl (hb hby at_125) rfl rfl k_) ?_
      show own_Go p e below _ T37 (mkF m 127 #[.val (.int y0), .val (.int y1), .val (.int y2), .val (.int y3), .val (.int y4), .val (.int (3 : Int32)), .val (.int (0 : Int32)), .val (.ref b31), .val (.int (Int32.ofNat q34)), .val (.ref a35), .val (.int mx36)] [(.ref a35), (.ref lt37)])
      refine own_go (fun t_ k_ => XS.iload X37.here hx rfl (hb hby at_127) rfl k_) ?_
      show own_Go p e below _ T37 (mkF m 129 #[.val (.int y0), .val (.int y1), .val (.int y2), .val (.int y3), .val (.int y4), .val (.int (3 : Int32)), .val (.int (0 : Int32)), .val (.ref b31), .val (.int (Int32.ofNat q34)), .val (.ref a35), .val (.int mx36)] [(.int mx36), (.ref a35), (.ref lt37)])
      obtain ⟨_, T38, L38, X38, ⟨rfl, N38, e38⟩, st38⟩ := own_callS X37 hx hZ (y := (⟨"com/example/lease/lease/service/Sizes", "checkCharacters", "(Ljava/lang/String;Ljava/lang/String;I)V"⟩ : MethodName)) (argsL := [(.ref lt37), (.ref a35), (.int mx36)]) (rest := []) (Ls := #[.val (.int y0), .val (.int y1), .val (.int y2), .val (.int y3), .val (.int y4), .val (.int (3 : Int32)), .val (.int (0 : Int32)), .val (.ref b31), .val (.int (Int32.ofNat q34)), .val (.ref a35), .val (.int mx36)]) hown (own_w hw 31 rfl) (own_w hw 32 rfl) (own_w hw 33 rfl) (own_w hw 34 rfl) (by decide) e37 (rmCk l Z a0 hw [] lt37 a35 mx36 q34 3 f34 cs h37 n0 (own_oldge old37) old37 S_ad S_hi S_lo S_cs hcs str_37 hc34 (by omega) rs34 hK36) 0 (by decide) (by decide) (by decide) (by decide) (by rw [hml]; rfl) (lenOf pd_11 rfl) rfl (Nat.le_of_eq rfl) (hb hby at_129)
      have M38 := Fr.app M36 N38
      refine own_go st38 ?_
      show own_Go p e below _ T38 (mkF m 132 #[.val (.int y0), .val (.int y1), .val (.int y2), .val (.int y3), .val (.int y4), .val (.int (3 : Int32)), .val (.int (0 : Int32)), .val (.ref b31), .val (.int (Int32.ofNat q34)), .val (.ref a35), .val (.int mx36)] [])
      refine own_go (fun t_ k_ => XS.iconst X38.here hx rfl (hb hby at_132) k_) ?_
      show own_Go p e below _ T38 (mkF m 133 #[.val (.int y0), .val (.int y1), .val (.int y2), .val (.int y3), .val (.int y4), .val (.int (3 : Int32)), .val (.int (0 : Int32)), .val (.ref b31), .val (.int (Int32.ofNat q34)), .val (.ref a35), .val (.int mx36)] [(.int (1 : Int32))])
      refine own_retZW X38 hS37 (by rw [e38]; exact hk37) hx hlk hret (hb hby at_133) (Or.inr rfl) (by decide) (by decide) ?_
      exact ⟨rfl, M38⟩
    · show own_Go p e below _ T0 (mkF m 10 #[.val (.int y0), .val (.int y1), .val (.int y2), .val (.int y3), .val (.int y4), .val (.int (3 : Int32)), .unset, .unset, .unset, .unset, .unset] [(.int (y0 &&& (256 : Int32)))])
      refine own_go (fun t_ k_ => XS.ifNo X0.here hx rfl (hb hby at_10) rfl (XT.i0_eq_f hnul) k_) ?_
      show own_Go p e below _ T0 (mkF m 13 #[.val (.int y0), .val (.int y1), .val (.int y2), .val (.int y3), .val (.int y4), .val (.int (3 : Int32)), .unset, .unset, .unset, .unset, .unset] [])
      refine own_go (fun t_ k_ => XS.iconst X0.here hx rfl (hb hby at_13) k_) ?_
      show own_Go p e below _ T0 (mkF m 14 #[.val (.int y0), .val (.int y1), .val (.int y2), .val (.int y3), .val (.int y4), .val (.int (3 : Int32)), .unset, .unset, .unset, .unset, .unset] [(.int (1 : Int32))])
      refine own_go (fun t_ k_ => XS.goto X0.here hx rfl (pc0 := 14) (pc' := 18) rfl (hb hby at_14) (by decide) (by decide) k_) ?_
      show own_Go p e below _ T0 (mkF m 18 #[.val (.int y0), .val (.int y1), .val (.int y2), .val (.int y3), .val (.int y4), .val (.int (3 : Int32)), .unset, .unset, .unset, .unset, .unset] [(.int (1 : Int32))])
      refine own_go (fun t_ k_ => XS.istore X0.here hx rfl (hb hby at_18) rfl (l' := #[.val (.int y0), .val (.int y1), .val (.int y2), .val (.int y3), .val (.int y4), .val (.int (3 : Int32)), .val (.int (1 : Int32)), .unset, .unset, .unset, .unset]) rfl k_) ?_
      show own_Go p e below _ T0 (mkF m 20 #[.val (.int y0), .val (.int y1), .val (.int y2), .val (.int y3), .val (.int y4), .val (.int (3 : Int32)), .val (.int (1 : Int32)), .unset, .unset, .unset, .unset] [])
      refine own_go (fun t_ k_ => XS.bipush X0.here hx rfl (hb hby at_20) k_) ?_
      show own_Go p e below _ T0 (mkF m 22 #[.val (.int y0), .val (.int y1), .val (.int y2), .val (.int y3), .val (.int y4), .val (.int (3 : Int32)), .val (.int (1 : Int32)), .unset, .unset, .unset, .unset] [(.int (6 : Int32))])
      obtain ⟨T39, h39, b39, X39, e39, E39, g39, V39, st39⟩ := own_newCA X0 hx hZ (own_w hw 0 rfl) e0 (Ls := #[.val (.int y0), .val (.int y1), .val (.int y2), .val (.int y3), .val (.int y4), .val (.int (3 : Int32)), .val (.int (1 : Int32)), .unset, .unset, .unset, .unset]) (rest := []) (hb hby at_22) 6 6 (by omega) (by decide) (by decide) (by decide)
      have ge_b39 : n0 ≤ b39 := g39 ▸ own_oldge O0
      have old39 := O0.ext E39
      refine own_go st39 ?_
      show own_Go p e below _ T39 (mkF m 24 #[.val (.int y0), .val (.int y1), .val (.int y2), .val (.int y3), .val (.int y4), .val (.int (3 : Int32)), .val (.int (1 : Int32)), .unset, .unset, .unset, .unset] [(.ref b39)])
      refine own_go (fun t_ k_ => XS.astore X39.here hx rfl (hb hby at_24) rfl rfl (l' := #[.val (.int y0), .val (.int y1), .val (.int y2), .val (.int y3), .val (.int y4), .val (.int (3 : Int32)), .val (.int (1 : Int32)), .val (.ref b39), .unset, .unset, .unset]) rfl k_) ?_
      show own_Go p e below _ T39 (mkF m 26 #[.val (.int y0), .val (.int y1), .val (.int y2), .val (.int y3), .val (.int y4), .val (.int (3 : Int32)), .val (.int (1 : Int32)), .val (.ref b39), .unset, .unset, .unset] [])
      refine own_go (fun t_ k_ => XS.iconst X39.here hx rfl (hb hby at_26) k_) ?_
      show own_Go p e below _ T39 (mkF m 27 #[.val (.int y0), .val (.int y1), .val (.int y2), .val (.int y3), .val (.int y4), .val (.int (3 : Int32)), .val (.int (1 : Int32)), .val (.ref b39), .unset, .unset, .unset] [(.int (0 : Int32))])
      refine own_go (fun t_ k_ => XS.istore X39.here hx rfl (hb hby at_27) rfl (l' := #[.val (.int y0), .val (.int y1), .val (.int y2), .val (.int y3), .val (.int y4), .val (.int (3 : Int32)), .val (.int (1 : Int32)), .val (.ref b39), .val (.int (0 : Int32)), .unset, .unset]) rfl k_) ?_
      show own_Go p e below _ T39 (mkF m 29 #[.val (.int y0), .val (.int y1), .val (.int y2), .val (.int y3), .val (.int y4), .val (.int (3 : Int32)), .val (.int (1 : Int32)), .val (.ref b39), .val (.int (0 : Int32)), .unset, .unset] [])
      refine own_go (fun t_ k_ => XS.iload X39.here hx rfl (hb hby at_29) rfl k_) ?_
      show own_Go p e below _ T39 (mkF m 31 #[.val (.int y0), .val (.int y1), .val (.int y2), .val (.int y3), .val (.int y4), .val (.int (3 : Int32)), .val (.int (1 : Int32)), .val (.ref b39), .val (.int (0 : Int32)), .unset, .unset] [(.int (3 : Int32))])
      refine own_go (fun t_ k_ => XS.ifNo X39.here hx rfl (hb hby at_31) rfl (XT.i0_le_f (by decide)) k_) ?_
      show own_Go p e below _ T39 (mkF m 34 #[.val (.int y0), .val (.int y1), .val (.int y2), .val (.int y3), .val (.int y4), .val (.int (3 : Int32)), .val (.int (1 : Int32)), .val (.ref b39), .val (.int (0 : Int32)), .unset, .unset] [])
      refine own_go (fun t_ k_ => XS.aload X39.here hx rfl (hb hby at_34) rfl rfl k_) ?_
      show own_Go p e below _ T39 (mkF m 36 #[.val (.int y0), .val (.int y1), .val (.int y2), .val (.int y3), .val (.int y4), .val (.int (3 : Int32)), .val (.int (1 : Int32)), .val (.ref b39), .val (.int (0 : Int32)), .unset, .unset] [(.ref b39)])
      refine own_go (fun t_ k_ => XS.iload X39.here hx rfl (hb hby at_36) rfl k_) ?_
      show own_Go p e below _ T39 (mkF m 38 #[.val (.int y0), .val (.int y1), .val (.int y2), .val (.int y3), .val (.int y4), .val (.int (3 : Int32)), .val (.int (1 : Int32)), .val (.ref b39), .val (.int (0 : Int32)), .unset, .unset] [(.int (0 : Int32)), (.ref b39)])
      refine own_go (fun t_ k_ => XS.iloadN X39.here hx rfl (hb hby at_38) rfl k_) ?_
      show own_Go p e below _ T39 (mkF m 39 #[.val (.int y0), .val (.int y1), .val (.int y2), .val (.int y3), .val (.int y4), .val (.int (3 : Int32)), .val (.int (1 : Int32)), .val (.ref b39), .val (.int (0 : Int32)), .unset, .unset] [(.int y0), (.int (0 : Int32)), (.ref b39)])
      refine own_go (fun t_ k_ => XS.iconst X39.here hx rfl (hb hby at_39) k_) ?_
      show own_Go p e below _ T39 (mkF m 40 #[.val (.int y0), .val (.int y1), .val (.int y2), .val (.int y3), .val (.int y4), .val (.int (3 : Int32)), .val (.int (1 : Int32)), .val (.ref b39), .val (.int (0 : Int32)), .unset, .unset] [(.int (2 : Int32)), (.int y0), (.int (0 : Int32)), (.ref b39)])
      refine own_go (fun t_ k_ => XS.iushr X39.here hx rfl (hb hby at_40) rfl k_) ?_
      show own_Go p e below _ T39 (mkF m 41 #[.val (.int y0), .val (.int y1), .val (.int y2), .val (.int y3), .val (.int y4), .val (.int (3 : Int32)), .val (.int (1 : Int32)), .val (.ref b39), .val (.int (0 : Int32)), .unset, .unset] [(.int ((y0.toUInt32 >>> ((2 : Int32) &&& 31).toUInt32).toInt32)), (.int (0 : Int32)), (.ref b39)])
      refine own_go (fun t_ k_ => XS.iloadN X39.here hx rfl (hb hby at_41) rfl k_) ?_
      show own_Go p e below _ T39 (mkF m 42 #[.val (.int y0), .val (.int y1), .val (.int y2), .val (.int y3), .val (.int y4), .val (.int (3 : Int32)), .val (.int (1 : Int32)), .val (.ref b39), .val (.int (0 : Int32)), .unset, .unset] [(.int y1), (.int ((y0.toUInt32 >>> ((2 : Int32) &&& 31).toUInt32).toInt32)), (.int (0 : Int32)), (.ref b39)])
      obtain ⟨_, T40, L40, X40, ⟨⟨q40, f40, rfl, ⟨V40, K40⟩, pc40, ag40, hc40⟩, N40⟩, st40⟩ := own_callS X39 hx hZ (y := (⟨"com/example/lease/lease/service/SizesCheckCharactersPinLaw", "put", "([CIII)I"⟩ : MethodName)) (argsL := [(.ref b39), (.int (0 : Int32)), (.int ((y0.toUInt32 >>> ((2 : Int32) &&& 31).toUInt32).toInt32)), (.int y1)]) (rest := []) (Ls := #[.val (.int y0), .val (.int y1), .val (.int y2), .val (.int y3), .val (.int y4), .val (.int (3 : Int32)), .val (.int (1 : Int32)), .val (.ref b39), .val (.int (0 : Int32)), .unset, .unset]) hown (own_w hw 65 rfl) (own_w hw 66 rfl) (own_w hw 3 rfl) (own_w hw 67 rfl) (by decide) e39 (rmPu l Z a0 hw [] b39 0 (fun (_ : Nat) => (0 : Int32)) ((y0.toUInt32 >>> ((2 : Int32) &&& 31).toUInt32).toInt32) y1 h39 n0 (own_oldge old39) old39 V39 ge_b39 (by omega) own_zC) 0 (by decide) (by decide) (by decide) (by decide) (by rw [hml]; rfl) (lenOf pd_20 rfl) rfl (Nat.le_of_eq rfl) (hb hby at_42)
      have M40 := Fr.app N0 N40
      have old40 := old39.keep K40 (allS ge_b39 all0)
      have rs40 := own_rs_snoc ag40 pc40 _ _ own_rs0
      have le40 := own_pcLe pc40
      refine own_go st40 ?_
      show own_Go p e below _ T40 (mkF m 45 #[.val (.int y0), .val (.int y1), .val (.int y2), .val (.int y3), .val (.int y4), .val (.int (3 : Int32)), .val (.int (1 : Int32)), .val (.ref b39), .val (.int (0 : Int32)), .unset, .unset] [(.int (Int32.ofNat q40))])
      refine own_go (fun t_ k_ => XS.istore X40.here hx rfl (hb hby at_45) rfl (l' := #[.val (.int y0), .val (.int y1), .val (.int y2), .val (.int y3), .val (.int y4), .val (.int (3 : Int32)), .val (.int (1 : Int32)), .val (.ref b39), .val (.int (Int32.ofNat q40)), .unset, .unset]) rfl k_) ?_
      show own_Go p e below _ T40 (mkF m 47 #[.val (.int y0), .val (.int y1), .val (.int y2), .val (.int y3), .val (.int y4), .val (.int (3 : Int32)), .val (.int (1 : Int32)), .val (.ref b39), .val (.int (Int32.ofNat q40)), .unset, .unset] [])
      refine own_go (fun t_ k_ => XS.iload X40.here hx rfl (hb hby at_47) rfl k_) ?_
      show own_Go p e below _ T40 (mkF m 49 #[.val (.int y0), .val (.int y1), .val (.int y2), .val (.int y3), .val (.int y4), .val (.int (3 : Int32)), .val (.int (1 : Int32)), .val (.ref b39), .val (.int (Int32.ofNat q40)), .unset, .unset] [(.int (3 : Int32))])
      refine own_go (fun t_ k_ => XS.iconst X40.here hx rfl (hb hby at_49) k_) ?_
      show own_Go p e below _ T40 (mkF m 50 #[.val (.int y0), .val (.int y1), .val (.int y2), .val (.int y3), .val (.int y4), .val (.int (3 : Int32)), .val (.int (1 : Int32)), .val (.ref b39), .val (.int (Int32.ofNat q40)), .unset, .unset] [(.int (1 : Int32)), (.int (3 : Int32))])
      refine own_go (fun t_ k_ => XS.icmpNo X40.here hx rfl (hb hby at_50) rfl (XT.ii_le_f (by decide)) k_) ?_
      show own_Go p e below _ T40 (mkF m 53 #[.val (.int y0), .val (.int y1), .val (.int y2), .val (.int y3), .val (.int y4), .val (.int (3 : Int32)), .val (.int (1 : Int32)), .val (.ref b39), .val (.int (Int32.ofNat q40)), .unset, .unset] [])
      refine own_go (fun t_ k_ => XS.aload X40.here hx rfl (hb hby at_53) rfl rfl k_) ?_
      show own_Go p e below _ T40 (mkF m 55 #[.val (.int y0), .val (.int y1), .val (.int y2), .val (.int y3), .val (.int y4), .val (.int (3 : Int32)), .val (.int (1 : Int32)), .val (.ref b39), .val (.int (Int32.ofNat q40)), .unset, .unset] [(.ref b39)])
      refine own_go (fun t_ k_ => XS.iload X40.here hx rfl (hb hby at_55) rfl k_) ?_
      show own_Go p e below _ T40 (mkF m 57 #[.val (.int y0), .val (.int y1), .val (.int y2), .val (.int y3), .val (.int y4), .val (.int (3 : Int32)), .val (.int (1 : Int32)), .val (.ref b39), .val (.int (Int32.ofNat q40)), .unset, .unset] [(.int (Int32.ofNat q40)), (.ref b39)])
      refine own_go (fun t_ k_ => XS.iloadN X40.here hx rfl (hb hby at_57) rfl k_) ?_
      show own_Go p e below _ T40 (mkF m 58 #[.val (.int y0), .val (.int y1), .val (.int y2), .val (.int y3), .val (.int y4), .val (.int (3 : Int32)), .val (.int (1 : Int32)), .val (.ref b39), .val (.int (Int32.ofNat q40)), .unset, .unset] [(.int y0), (.int (Int32.ofNat q40)), (.ref b39)])
      refine own_go (fun t_ k_ => XS.iconst X40.here hx rfl (hb hby at_58) k_) ?_
      show own_Go p e below _ T40 (mkF m 59 #[.val (.int y0), .val (.int y1), .val (.int y2), .val (.int y3), .val (.int y4), .val (.int (3 : Int32)), .val (.int (1 : Int32)), .val (.ref b39), .val (.int (Int32.ofNat q40)), .unset, .unset] [(.int (4 : Int32)), (.int y0), (.int (Int32.ofNat q40)), (.ref b39)])
      refine own_go (fun t_ k_ => XS.iushr X40.here hx rfl (hb hby at_59) rfl k_) ?_
      show own_Go p e below _ T40 (mkF m 60 #[.val (.int y0), .val (.int y1), .val (.int y2), .val (.int y3), .val (.int y4), .val (.int (3 : Int32)), .val (.int (1 : Int32)), .val (.ref b39), .val (.int (Int32.ofNat q40)), .unset, .unset] [(.int ((y0.toUInt32 >>> ((4 : Int32) &&& 31).toUInt32).toInt32)), (.int (Int32.ofNat q40)), (.ref b39)])
      refine own_go (fun t_ k_ => XS.iloadN X40.here hx rfl (hb hby at_60) rfl k_) ?_
      show own_Go p e below _ T40 (mkF m 61 #[.val (.int y0), .val (.int y1), .val (.int y2), .val (.int y3), .val (.int y4), .val (.int (3 : Int32)), .val (.int (1 : Int32)), .val (.ref b39), .val (.int (Int32.ofNat q40)), .unset, .unset] [(.int y2), (.int ((y0.toUInt32 >>> ((4 : Int32) &&& 31).toUInt32).toInt32)), (.int (Int32.ofNat q40)), (.ref b39)])
      obtain ⟨_, T41, L41, X41, ⟨⟨q41, f41, rfl, ⟨V41, K41⟩, pc41, ag41, hc41⟩, N41⟩, st41⟩ := own_callS X40 hx hZ (y := (⟨"com/example/lease/lease/service/SizesCheckCharactersPinLaw", "put", "([CIII)I"⟩ : MethodName)) (argsL := [(.ref b39), (.int (Int32.ofNat q40)), (.int ((y0.toUInt32 >>> ((4 : Int32) &&& 31).toUInt32).toInt32)), (.int y2)]) (rest := []) (Ls := #[.val (.int y0), .val (.int y1), .val (.int y2), .val (.int y3), .val (.int y4), .val (.int (3 : Int32)), .val (.int (1 : Int32)), .val (.ref b39), .val (.int (Int32.ofNat q40)), .unset, .unset]) hown (own_w hw 65 rfl) (own_w hw 66 rfl) (own_w hw 3 rfl) (own_w hw 67 rfl) (by decide) rfl (rmPu l Z a0 hw [] b39 q40 f40 ((y0.toUInt32 >>> ((4 : Int32) &&& 31).toUInt32).toInt32) y2 T40.heap n0 (own_oldge old40) old40 V40 ge_b39 (by omega) hc40) 0 (by decide) (by decide) (by decide) (by decide) (by rw [hml]; rfl) (lenOf pd_20 rfl) rfl (Nat.le_of_eq rfl) (hb hby at_61)
      have M41 := Fr.app M40 N41
      have old41 := old40.keep K41 (allS ge_b39 all0)
      have rs41 := own_rs_snoc ag41 pc41 _ _ rs40
      have le41 := own_pcLe pc41
      refine own_go st41 ?_
      show own_Go p e below _ T41 (mkF m 64 #[.val (.int y0), .val (.int y1), .val (.int y2), .val (.int y3), .val (.int y4), .val (.int (3 : Int32)), .val (.int (1 : Int32)), .val (.ref b39), .val (.int (Int32.ofNat q40)), .unset, .unset] [(.int (Int32.ofNat q41))])
      refine own_go (fun t_ k_ => XS.istore X41.here hx rfl (hb hby at_64) rfl (l' := #[.val (.int y0), .val (.int y1), .val (.int y2), .val (.int y3), .val (.int y4), .val (.int (3 : Int32)), .val (.int (1 : Int32)), .val (.ref b39), .val (.int (Int32.ofNat q41)), .unset, .unset]) rfl k_) ?_
      show own_Go p e below _ T41 (mkF m 66 #[.val (.int y0), .val (.int y1), .val (.int y2), .val (.int y3), .val (.int y4), .val (.int (3 : Int32)), .val (.int (1 : Int32)), .val (.ref b39), .val (.int (Int32.ofNat q41)), .unset, .unset] [])
      refine own_go (fun t_ k_ => XS.iload X41.here hx rfl (hb hby at_66) rfl k_) ?_
      show own_Go p e below _ T41 (mkF m 68 #[.val (.int y0), .val (.int y1), .val (.int y2), .val (.int y3), .val (.int y4), .val (.int (3 : Int32)), .val (.int (1 : Int32)), .val (.ref b39), .val (.int (Int32.ofNat q41)), .unset, .unset] [(.int (3 : Int32))])
      refine own_go (fun t_ k_ => XS.iconst X41.here hx rfl (hb hby at_68) k_) ?_
      show own_Go p e below _ T41 (mkF m 69 #[.val (.int y0), .val (.int y1), .val (.int y2), .val (.int y3), .val (.int y4), .val (.int (3 : Int32)), .val (.int (1 : Int32)), .val (.ref b39), .val (.int (Int32.ofNat q41)), .unset, .unset] [(.int (2 : Int32)), (.int (3 : Int32))])
      refine own_go (fun t_ k_ => XS.icmpNo X41.here hx rfl (hb hby at_69) rfl (XT.ii_le_f (by decide)) k_) ?_
      show own_Go p e below _ T41 (mkF m 72 #[.val (.int y0), .val (.int y1), .val (.int y2), .val (.int y3), .val (.int y4), .val (.int (3 : Int32)), .val (.int (1 : Int32)), .val (.ref b39), .val (.int (Int32.ofNat q41)), .unset, .unset] [])
      refine own_go (fun t_ k_ => XS.aload X41.here hx rfl (hb hby at_72) rfl rfl k_) ?_
      show own_Go p e below _ T41 (mkF m 74 #[.val (.int y0), .val (.int y1), .val (.int y2), .val (.int y3), .val (.int y4), .val (.int (3 : Int32)), .val (.int (1 : Int32)), .val (.ref b39), .val (.int (Int32.ofNat q41)), .unset, .unset] [(.ref b39)])
      refine own_go (fun t_ k_ => XS.iload X41.here hx rfl (hb hby at_74) rfl k_) ?_
      show own_Go p e below _ T41 (mkF m 76 #[.val (.int y0), .val (.int y1), .val (.int y2), .val (.int y3), .val (.int y4), .val (.int (3 : Int32)), .val (.int (1 : Int32)), .val (.ref b39), .val (.int (Int32.ofNat q41)), .unset, .unset] [(.int (Int32.ofNat q41)), (.ref b39)])
      refine own_go (fun t_ k_ => XS.iloadN X41.here hx rfl (hb hby at_76) rfl k_) ?_
      show own_Go p e below _ T41 (mkF m 77 #[.val (.int y0), .val (.int y1), .val (.int y2), .val (.int y3), .val (.int y4), .val (.int (3 : Int32)), .val (.int (1 : Int32)), .val (.ref b39), .val (.int (Int32.ofNat q41)), .unset, .unset] [(.int y0), (.int (Int32.ofNat q41)), (.ref b39)])
      refine own_go (fun t_ k_ => XS.bipush X41.here hx rfl (hb hby at_77) k_) ?_
      show own_Go p e below _ T41 (mkF m 79 #[.val (.int y0), .val (.int y1), .val (.int y2), .val (.int y3), .val (.int y4), .val (.int (3 : Int32)), .val (.int (1 : Int32)), .val (.ref b39), .val (.int (Int32.ofNat q41)), .unset, .unset] [(.int (6 : Int32)), (.int y0), (.int (Int32.ofNat q41)), (.ref b39)])
      refine own_go (fun t_ k_ => XS.iushr X41.here hx rfl (hb hby at_79) rfl k_) ?_
      show own_Go p e below _ T41 (mkF m 80 #[.val (.int y0), .val (.int y1), .val (.int y2), .val (.int y3), .val (.int y4), .val (.int (3 : Int32)), .val (.int (1 : Int32)), .val (.ref b39), .val (.int (Int32.ofNat q41)), .unset, .unset] [(.int ((y0.toUInt32 >>> ((6 : Int32) &&& 31).toUInt32).toInt32)), (.int (Int32.ofNat q41)), (.ref b39)])
      refine own_go (fun t_ k_ => XS.iloadN X41.here hx rfl (hb hby at_80) rfl k_) ?_
      show own_Go p e below _ T41 (mkF m 81 #[.val (.int y0), .val (.int y1), .val (.int y2), .val (.int y3), .val (.int y4), .val (.int (3 : Int32)), .val (.int (1 : Int32)), .val (.ref b39), .val (.int (Int32.ofNat q41)), .unset, .unset] [(.int y3), (.int ((y0.toUInt32 >>> ((6 : Int32) &&& 31).toUInt32).toInt32)), (.int (Int32.ofNat q41)), (.ref b39)])
      obtain ⟨_, T42, L42, X42, ⟨⟨q42, f42, rfl, ⟨V42, K42⟩, pc42, ag42, hc42⟩, N42⟩, st42⟩ := own_callS X41 hx hZ (y := (⟨"com/example/lease/lease/service/SizesCheckCharactersPinLaw", "put", "([CIII)I"⟩ : MethodName)) (argsL := [(.ref b39), (.int (Int32.ofNat q41)), (.int ((y0.toUInt32 >>> ((6 : Int32) &&& 31).toUInt32).toInt32)), (.int y3)]) (rest := []) (Ls := #[.val (.int y0), .val (.int y1), .val (.int y2), .val (.int y3), .val (.int y4), .val (.int (3 : Int32)), .val (.int (1 : Int32)), .val (.ref b39), .val (.int (Int32.ofNat q41)), .unset, .unset]) hown (own_w hw 65 rfl) (own_w hw 66 rfl) (own_w hw 3 rfl) (own_w hw 67 rfl) (by decide) rfl (rmPu l Z a0 hw [] b39 q41 f41 ((y0.toUInt32 >>> ((6 : Int32) &&& 31).toUInt32).toInt32) y3 T41.heap n0 (own_oldge old41) old41 V41 ge_b39 (by omega) hc41) 0 (by decide) (by decide) (by decide) (by decide) (by rw [hml]; rfl) (lenOf pd_20 rfl) rfl (Nat.le_of_eq rfl) (hb hby at_81)
      have M42 := Fr.app M41 N42
      have old42 := old41.keep K42 (allS ge_b39 all0)
      have rs42 := own_rs_snoc ag42 pc42 _ _ rs41
      have le42 := own_pcLe pc42
      refine own_go st42 ?_
      show own_Go p e below _ T42 (mkF m 84 #[.val (.int y0), .val (.int y1), .val (.int y2), .val (.int y3), .val (.int y4), .val (.int (3 : Int32)), .val (.int (1 : Int32)), .val (.ref b39), .val (.int (Int32.ofNat q41)), .unset, .unset] [(.int (Int32.ofNat q42))])
      refine own_go (fun t_ k_ => XS.istore X42.here hx rfl (hb hby at_84) rfl (l' := #[.val (.int y0), .val (.int y1), .val (.int y2), .val (.int y3), .val (.int y4), .val (.int (3 : Int32)), .val (.int (1 : Int32)), .val (.ref b39), .val (.int (Int32.ofNat q42)), .unset, .unset]) rfl k_) ?_
      show own_Go p e below _ T42 (mkF m 86 #[.val (.int y0), .val (.int y1), .val (.int y2), .val (.int y3), .val (.int y4), .val (.int (3 : Int32)), .val (.int (1 : Int32)), .val (.ref b39), .val (.int (Int32.ofNat q42)), .unset, .unset] [])
      refine own_go (fun t_ k_ => XS.iload X42.here hx rfl (hb hby at_86) rfl k_) ?_
      show own_Go p e below _ T42 (mkF m 88 #[.val (.int y0), .val (.int y1), .val (.int y2), .val (.int y3), .val (.int y4), .val (.int (3 : Int32)), .val (.int (1 : Int32)), .val (.ref b39), .val (.int (Int32.ofNat q42)), .unset, .unset] [(.int (1 : Int32))])
      refine own_go (fun t_ k_ => XS.ifNo X42.here hx rfl (hb hby at_88) rfl (XT.i0_eq_f (by decide)) k_) ?_
      show own_Go p e below _ T42 (mkF m 91 #[.val (.int y0), .val (.int y1), .val (.int y2), .val (.int y3), .val (.int y4), .val (.int (3 : Int32)), .val (.int (1 : Int32)), .val (.ref b39), .val (.int (Int32.ofNat q42)), .unset, .unset] [])
      refine own_go (fun t_ k_ => XS.aconstNull X42.here hx rfl (hb hby at_91) k_) ?_
      show own_Go p e below _ T42 (mkF m 92 #[.val (.int y0), .val (.int y1), .val (.int y2), .val (.int y3), .val (.int y4), .val (.int (3 : Int32)), .val (.int (1 : Int32)), .val (.ref b39), .val (.int (Int32.ofNat q42)), .unset, .unset] [.null])
      refine own_go (fun t_ k_ => XS.goto X42.here hx rfl (pc0 := 92) (pc' := 102) rfl (hb hby at_92) (by decide) (by decide) k_) ?_
      show own_Go p e below _ T42 (mkF m 102 #[.val (.int y0), .val (.int y1), .val (.int y2), .val (.int y3), .val (.int y4), .val (.int (3 : Int32)), .val (.int (1 : Int32)), .val (.ref b39), .val (.int (Int32.ofNat q42)), .unset, .unset] [.null])
      refine own_go (fun t_ k_ => XS.astore X42.here hx rfl (hb hby at_102) rfl rfl (l' := #[.val (.int y0), .val (.int y1), .val (.int y2), .val (.int y3), .val (.int y4), .val (.int (3 : Int32)), .val (.int (1 : Int32)), .val (.ref b39), .val (.int (Int32.ofNat q42)), .val .null, .unset]) rfl k_) ?_
      show own_Go p e below _ T42 (mkF m 104 #[.val (.int y0), .val (.int y1), .val (.int y2), .val (.int y3), .val (.int y4), .val (.int (3 : Int32)), .val (.int (1 : Int32)), .val (.ref b39), .val (.int (Int32.ofNat q42)), .val .null, .unset] [])
      refine own_go (fun t_ k_ => XS.iload X42.here hx rfl (hb hby at_104) rfl k_) ?_
      show own_Go p e below _ T42 (mkF m 106 #[.val (.int y0), .val (.int y1), .val (.int y2), .val (.int y3), .val (.int y4), .val (.int (3 : Int32)), .val (.int (1 : Int32)), .val (.ref b39), .val (.int (Int32.ofNat q42)), .val .null, .unset] [(.int (1 : Int32))])
      refine own_go (fun t_ k_ => XS.ifNo X42.here hx rfl (hb hby at_106) rfl (XT.i0_eq_f (by decide)) k_) ?_
      show own_Go p e below _ T42 (mkF m 109 #[.val (.int y0), .val (.int y1), .val (.int y2), .val (.int y3), .val (.int y4), .val (.int (3 : Int32)), .val (.int (1 : Int32)), .val (.ref b39), .val (.int (Int32.ofNat q42)), .val .null, .unset] [])
      refine own_go (fun t_ k_ => XS.iload X42.here hx rfl (hb hby at_109) rfl k_) ?_
      show own_Go p e below _ T42 (mkF m 111 #[.val (.int y0), .val (.int y1), .val (.int y2), .val (.int y3), .val (.int y4), .val (.int (3 : Int32)), .val (.int (1 : Int32)), .val (.ref b39), .val (.int (Int32.ofNat q42)), .val .null, .unset] [(.int y4)])
      refine own_go (fun t_ k_ => XS.goto X42.here hx rfl (pc0 := 111) (pc' := 121) rfl (hb hby at_111) (by decide) (by decide) k_) ?_
      show own_Go p e below _ T42 (mkF m 121 #[.val (.int y0), .val (.int y1), .val (.int y2), .val (.int y3), .val (.int y4), .val (.int (3 : Int32)), .val (.int (1 : Int32)), .val (.ref b39), .val (.int (Int32.ofNat q42)), .val .null, .unset] [(.int y4)])
      refine own_go (fun t_ k_ => XS.istore X42.here hx rfl (hb hby at_121) rfl (l' := #[.val (.int y0), .val (.int y1), .val (.int y2), .val (.int y3), .val (.int y4), .val (.int (3 : Int32)), .val (.int (1 : Int32)), .val (.ref b39), .val (.int (Int32.ofNat q42)), .val .null, .val (.int y4)]) rfl k_) ?_
      show own_Go p e below _ T42 (mkF m 123 #[.val (.int y0), .val (.int y1), .val (.int y2), .val (.int y3), .val (.int y4), .val (.int (3 : Int32)), .val (.int (1 : Int32)), .val (.ref b39), .val (.int (Int32.ofNat q42)), .val .null, .val (.int y4)] [])
      obtain ⟨lt43, T43, h43, k43, X43, e43, E43, hS43, hk43, hZ, hown, st43⟩ := own_ldcF (own_wd X42) hx hZ hown (own_w hw 30 rfl) (own_str hw) rfl (own_wS s T42.heap.size) (Nat.le_refl _) (Ls := #[.val (.int y0), .val (.int y1), .val (.int y2), .val (.int y3), .val (.int y4), .val (.int (3 : Int32)), .val (.int (1 : Int32)), .val (.ref b39), .val (.int (Int32.ofNat q42)), .val .null, .val (.int y4)]) (rest := []) (hb hby at_123) 4 (by decide) (by decide) (by decide) (by decide)
      have old43 := old42.ext E43
      refine own_go st43 ?_
      show own_Go p e below _ T43 (mkF m 125 #[.val (.int y0), .val (.int y1), .val (.int y2), .val (.int y3), .val (.int y4), .val (.int (3 : Int32)), .val (.int (1 : Int32)), .val (.ref b39), .val (.int (Int32.ofNat q42)), .val .null, .val (.int y4)] [(.ref lt43)])
      refine own_go (fun t_ k_ => XS.aload X43.here hx rfl (hb hby at_125) rfl rfl k_) ?_
      show own_Go p e below _ T43 (mkF m 127 #[.val (.int y0), .val (.int y1), .val (.int y2), .val (.int y3), .val (.int y4), .val (.int (3 : Int32)), .val (.int (1 : Int32)), .val (.ref b39), .val (.int (Int32.ofNat q42)), .val .null, .val (.int y4)] [.null, (.ref lt43)])
      refine own_go (fun t_ k_ => XS.iload X43.here hx rfl (hb hby at_127) rfl k_) ?_
      show own_Go p e below _ T43 (mkF m 129 #[.val (.int y0), .val (.int y1), .val (.int y2), .val (.int y3), .val (.int y4), .val (.int (3 : Int32)), .val (.int (1 : Int32)), .val (.ref b39), .val (.int (Int32.ofNat q42)), .val .null, .val (.int y4)] [(.int y4), .null, (.ref lt43)])
      obtain ⟨_, T44, L44, X44, ⟨rfl, N44, e44⟩, st44⟩ := own_callS X43 hx hZ (y := (⟨"com/example/lease/lease/service/Sizes", "checkCharacters", "(Ljava/lang/String;Ljava/lang/String;I)V"⟩ : MethodName)) (argsL := [(.ref lt43), .null, (.int y4)]) (rest := []) (Ls := #[.val (.int y0), .val (.int y1), .val (.int y2), .val (.int y3), .val (.int y4), .val (.int (3 : Int32)), .val (.int (1 : Int32)), .val (.ref b39), .val (.int (Int32.ofNat q42)), .val .null, .val (.int y4)]) hown (own_w hw 31 rfl) (own_w hw 32 rfl) (own_w hw 33 rfl) (own_w hw 34 rfl) (by decide) e43 (rmCkN l Z a0 hw [] lt43 y4 h43 n0 (own_oldge old43)) 0 (by decide) (by decide) (by decide) (by decide) (by rw [hml]; rfl) (lenOf pd_11 rfl) rfl (Nat.le_of_eq rfl) (hb hby at_129)
      have M44 := Fr.app M42 N44
      refine own_go st44 ?_
      show own_Go p e below _ T44 (mkF m 132 #[.val (.int y0), .val (.int y1), .val (.int y2), .val (.int y3), .val (.int y4), .val (.int (3 : Int32)), .val (.int (1 : Int32)), .val (.ref b39), .val (.int (Int32.ofNat q42)), .val .null, .val (.int y4)] [])
      refine own_go (fun t_ k_ => XS.iconst X44.here hx rfl (hb hby at_132) k_) ?_
      show own_Go p e below _ T44 (mkF m 133 #[.val (.int y0), .val (.int y1), .val (.int y2), .val (.int y3), .val (.int y4), .val (.int (3 : Int32)), .val (.int (1 : Int32)), .val (.ref b39), .val (.int (Int32.ofNat q42)), .val .null, .val (.int y4)] [(.int (1 : Int32))])
      refine own_retZW X44 hS43 (by rw [e44]; exact hk43) hx hlk hret (hb hby at_133) (Or.inr rfl) (by decide) (by decide) ?_
      exact ⟨rfl, M44⟩
set_option maxRecDepth 65536 in
set_option maxHeartbeats 40000000 in
theorem comes_1 {Post : Tables → Env → Array Value → State → Outcome → State → Prop} (hpost : ∀ tb e args s v u, (limb_1_1.after args s (.returned v) u = true ∧ limb_1_2.after args s (.returned v) u = true ∧ True) → ReturnedEndW s (.returned v) u (Jvm.fieldLocs frame_1_writes args s ++ Jvm.arrayLocs frame_1_arrays args s ++ Jvm.staticLocs frame_1_statics s) 24 2240 → Post tb e args s (.returned v) u) :
    ArmFor flags0 classFile x code maxLocals ret World_1 tables_1 room_1 Calls_1 rest_1 Pre_1 Post := by
  intro l hfl _ _ p e ha hc hk s m args below hf hA hF happ hP
  obtain ⟨hcalls, hrest, hpre⟩ := hP
  obtain ⟨-, -, -, hnamed, -, -, -, hat⟩ := (Spec.applies_iff hf).mp happ
  obtain ⟨hg, hn⟩ := and_e (Cond.before_iff.mp (show (Jvm.Cond.and given_1 narrow_1).before args s = true from hpre))
  obtain ⟨g1, g2⟩ := and_e hg
  obtain ⟨g3, g4⟩ := and_e g2
  obtain ⟨g5, g6⟩ := and_e g4
  obtain ⟨g7, g8⟩ := and_e g6
  obtain ⟨g9, g10⟩ := and_e g8
  obtain ⟨w0, w1, w2, w3, w4, rfl⟩ : ∃ w0 w1 w2 w3 w4 : Value, args = #[w0, w1, w2, w3, w4] := by
    have hs : args.size = 5 := by simpa [Cond.value, given_1] using g1
    obtain ⟨L⟩ := args
    match L, hs with
    | [w0, w1, w2, w3, w4], _ => exact ⟨w0, w1, w2, w3, w4, rfl⟩
  have hw := fun d (hd : d ∈ tables_1) => atoms_spec (ws := Jvm.Cond.code x code maxLocals ret :: tables_1) hat d (List.mem_cons_of_mem _ hd)
  have hfit : Fit s := fun {y c} hc i hi => by
    obtain ⟨ha, rfl⟩ := Array.getElem?_eq_some_iff.mp hc
    have q := List.all_eq_true.mp ((Array.all_eq_true_iff_forall_mem.mp hF) _ (Array.getElem_mem ha)) i (List.mem_range.mpr hi)
    simpa [Array.getElem?_eq_getElem hi] using q
  obtain ⟨i0, ei0⟩ := is_v g3
  obtain rfl : w0 = (.int i0) := Option.some.inj ei0
  obtain ⟨i1, ei1⟩ := is_v g5
  obtain rfl : w1 = (.int i1) := Option.some.inj ei1
  obtain ⟨i2, ei2⟩ := is_v g7
  obtain rfl : w2 = (.int i2) := Option.some.inj ei2
  obtain ⟨i3, ei3⟩ := is_v g9
  obtain rfl : w3 = (.int i3) := Option.some.inj ei3
  obtain ⟨i4, ei4⟩ := is_v g10
  obtain rfl : w4 = (.int i4) := Option.some.inj ei4
  obtain ⟨hsets, hown0⟩ := atoms_of _ (rest_1_c_eq ▸ (show rest_1_c.before _ s = true from hrest))
  have z1 := Cond.before_iff.mp (own_w hsets 1 rfl)
  have z2 := Cond.before_iff.mp (own_w hsets 2 rfl)
  have z12 := Cond.before_iff.mp (own_w hsets 12 rfl)
  have z15 := Cond.before_iff.mp (own_w hsets 15 rfl)
  have z18 := Cond.before_iff.mp (own_w hsets 18 rfl)
  obtain ⟨cs, ecs⟩ := is_v z1
  have S_cs := Sta.start ecs (Or.inl (own_w hsets 0 rfl))
  have S_ad := Sta.start (own_eqI z12) (Or.inl (own_w hsets 11 rfl))
  have S_hi := Sta.start (own_eqI z15) (Or.inl (own_w hsets 14 rfl))
  have S_lo := Sta.start (own_eqI z18) (Or.inl (own_w hsets 17 rfl))
  have hcs : ¬ cs = 0 := fun q => by subst q; simp [Cond.value, ecs, Term.int_eval] at z2
  have hcw : Jvm.Lit.compactW.before _ s = true := own_w hsets 2 rfl
  have hH : Jvm.Lit.constHeld s "java/lang/String" 7 := hcalls.1 ("java/lang/String", 7) (by simp [consts_1])
  obtain ⟨n, o, h1, h2, h3, _, L, rfl, ⟨rfl, N⟩, hq⟩ := rm0 l s _ hw tables_1 i0 i1 i2 i3 i4 cs s.heap s.heap.size (Nat.le_refl _) (Old.start s) S_ad S_hi S_lo S_cs hcs hH hcw p e ha hc hk s m _ below hf ((Spec.applies_iff_loose hf).mp happ).1 ⟨rfl, State.WarmedH.refl s, rfl⟩ trivial
  refine ⟨n, _, h1, h2, h3, hpost _ _ _ _ _ _ ⟨Cond.after_iff.mpr rfl, Cond.after_iff.mpr (eq_i res_at (Term.int_eval (1)) rfl), trivial⟩ ⟨hq.1, hq.2.1, hq.2.2.1, (hq.2.2.2.sift fun y hy => Or.inr (N y hy)).mono (by decide) (by decide)⟩⟩
theorem main_1_1 : Claimed_1_1 := comes_1 fun _ _ _ _ _ _ h hF => ⟨h.1, hF⟩
theorem main_1_2 : Claimed_1_2 := comes_1 fun _ _ _ _ _ _ h hF => ⟨h.2.1, hF⟩
end Jvm.Pilot.@@N@@
namespace Jvm.Pilot.@@N@@
open Jvm Jvm.ClassFile Sem Op Lib Jvm.Free Jvm.Stand Jvm.Pilot.@@N@@.Jvm.D
/-! MADE BY PROGRAM (witnessworld.py) out of the Statement's table words and the real class files: 23 classes; the members and pool entries that the words name. The judged class is class 1, her method 3. -/
namespace start1
open Jvm.ClassFile
def u (s : String) : CpInfo := .utf8 (stringToUtf16 s)
/-- a pool by its gaps: so many unusable entries, then the entry; so many at the end -/
def gap : Nat → List CpInfo → List CpInfo
  | 0, r => r
  | n + 1, r => .unusable :: gap n r
def poolList (es : List (Nat × CpInfo)) (last : Nat) : List CpInfo := es.foldr (fun e r => gap e.1 (e.2 :: r)) (gap last [])
def pool (es : List (Nat × CpInfo)) (last : Nat) : Array CpInfo := ⟨poolList es last⟩
def fileOf (pool : Array CpInfo) (this : Nat) (attrs : Array Attribute := #[]) (ms : Array MethodInfo := #[]) (fl : Nat := 33) (sup : Nat := 0) (ifs : Array Nat := #[]) (fds : Array FieldInfo := #[]) : ClassFile where
  minorVersion := 0
  majorVersion := 65
  constantPool := pool
  accessFlags := fl
  thisClass := this
  superClass := sup
  interfaces := ifs
  fields := fds
  methods := ms
  attributes := attrs
def plain (name : String) (sup : Option ClassId) : Class where
  name := name
  kind := .ordinary
  loader := none
  accessFlags := 33
  super := sup
  interfaces := #[]
  cf := none
  fields := #[]
  methods := #[]
  instanceTypes := #[]
  staticTypes := #[]
  resolved := #[]
  callSites := []
  init := .initialized
  statics := none
  mirror := none

def pool0 : Array CpInfo := pool [(5, u "<init>"), (0, u "()V"), (1, .class_ 10), (1, u "java/lang/Object")] 113

def k0c0 : Code := { maxStack := 0, maxLocals := 1, code := object_method_1_code, exceptionTable := #[], attributes := #[] }
def k0m0 : Method := { name := "<init>", desc := "()V", sig := { parameters := [], returnType := none }, accessFlags := 1, code := some k0c0 }
/-- java/lang/Object -/
def k0 : Class := { plain "java/lang/Object" none with
  accessFlags := 33
  interfaces := #[]
  cf := some (fileOf pool0 8 #[] #[{ accessFlags := 1, nameIndex := 5, descriptorIndex := 6, attributes := #[] }] 33 0 #[] #[])
  fields := #[]
  methods := #[k0m0]
  instanceTypes := #[]
  staticTypes := #[]
  resolved := Array.replicate 124 none
  statics := none }

def pool1 : Array CpInfo := pool [(2, .class_ 4), (1, u "java/lang/Object"), (0, u "<init>"), (0, u "()V"), (0, .integer 55296), (0, .integer 56320), (0, .integer 57344), (0, .class_ 11), (0, u "java/lang/String"), (0, .methodref 10 13), (0, .nameAndType 5 14), (0, u "([C)V"), (0, .methodref 16 17), (0, .class_ 18), (0, .nameAndType 19 20), (0, u "com/example/lease/lease/service/SizesCheckCharactersPinLaw"), (0, u "put"), (0, u "([CIII)I"), (0, .methodref 16 22), (0, .nameAndType 23 24), (0, u "make"), (0, u "([CI)Ljava/lang/String;"), (0, .methodref 26 27), (0, .class_ 28), (0, .nameAndType 29 30), (0, u "java/lang/Math"), (0, u "max"), (0, u "(II)I"), (0, .string 32), (0, u "f"), (0, .methodref 34 35), (0, .class_ 36), (0, .nameAndType 37 38), (0, u "com/example/lease/lease/service/Sizes"), (0, u "checkCharacters"), (0, u "(Ljava/lang/String;Ljava/lang/String;I)V"), (3, u "law"), (0, u "(IIIII)Z")] 4

def k1m0 : Method := { name := "<init>", desc := "()V", sig := { parameters := [], returnType := none }, accessFlags := 2, code := none }
def k1c1 : Code := { maxStack := 5, maxLocals := 5, code := method_2_code, exceptionTable := #[], attributes := #[] }
def k1m1 : Method := { name := "put", desc := "([CIII)I", sig := { parameters := [(.array .char), .int, .int, .int], returnType := some .int }, accessFlags := 10, code := some k1c1 }
def k1c2 : Code := { maxStack := 7, maxLocals := 2, code := method_3_code, exceptionTable := #[], attributes := #[] }
def k1m2 : Method := { name := "make", desc := "([CI)Ljava/lang/String;", sig := { parameters := [(.array .char), .int], returnType := some (.object "java/lang/String") }, accessFlags := 10, code := some k1c2 }
def k1c3 : Code := { maxStack := 4, maxLocals := 11, code := code, exceptionTable := #[], attributes := #[] }
def k1m3 : Method := { name := "law", desc := "(IIIII)Z", sig := { parameters := [.int, .int, .int, .int, .int], returnType := some .boolean }, accessFlags := 9, code := some k1c3 }
/-- com/example/lease/lease/service/SizesCheckCharactersPinLaw -/
def k1 : Class := { plain "com/example/lease/lease/service/SizesCheckCharactersPinLaw" (some 0) with
  accessFlags := 49
  interfaces := #[]
  cf := some (fileOf pool1 16 #[] #[{ accessFlags := 2, nameIndex := 5, descriptorIndex := 6, attributes := #[] }, { accessFlags := 10, nameIndex := 19, descriptorIndex := 20, attributes := #[] }, { accessFlags := 10, nameIndex := 23, descriptorIndex := 24, attributes := #[] }, { accessFlags := 9, nameIndex := 42, descriptorIndex := 43, attributes := #[] }] 49 2 #[] #[])
  fields := #[]
  methods := #[k1m0, k1m1, k1m2, k1m3]
  instanceTypes := #[]
  staticTypes := #[]
  resolved := Array.replicate 48 none
  statics := none }

def pool2 : Array CpInfo := pool [(1, .class_ 2), (0, u "java/io/Serializable"), (0, .class_ 4), (0, u "java/lang/Object")] 2

/-- java/io/Serializable -/
def k2 : Class := { plain "java/io/Serializable" (some 0) with
  accessFlags := 1537
  interfaces := #[]
  cf := some (fileOf pool2 1 #[] #[] 1537 3 #[] #[])
  fields := #[]
  methods := #[]
  instanceTypes := #[]
  staticTypes := #[]
  resolved := Array.replicate 7 none
  statics := none }

def pool3 : Array CpInfo := pool [(1, .class_ 2), (0, u "java/lang/Comparable"), (0, .class_ 4), (0, u "java/lang/Object")] 7

/-- java/lang/Comparable -/
def k3 : Class := { plain "java/lang/Comparable" (some 0) with
  accessFlags := 1537
  interfaces := #[]
  cf := some (fileOf pool3 1 #[] #[] 1537 3 #[] #[])
  fields := #[]
  methods := #[]
  instanceTypes := #[]
  staticTypes := #[]
  resolved := Array.replicate 12 none
  statics := none }

def pool4 : Array CpInfo := pool [(2, .class_ 4), (1, u "java/lang/CharSequence"), (42, .class_ 48), (0, u "java/lang/CharSequence$1CodePointIterator"), (10, .class_ 60), (0, u "java/lang/CharSequence$1CharIterator"), (5, .class_ 67), (0, u "java/lang/Object")] 63

/-- java/lang/CharSequence -/
def k4 : Class := { plain "java/lang/CharSequence" (some 0) with
  accessFlags := 1537
  interfaces := #[]
  cf := some (fileOf pool4 2 #[.nestMembers #[47, 59]] #[] 1537 66 #[] #[])
  fields := #[]
  methods := #[]
  instanceTypes := #[]
  staticTypes := #[]
  resolved := Array.replicate 131 none
  statics := none }

def pool5 : Array CpInfo := pool [(1, .class_ 2), (0, u "java/lang/constant/Constable"), (0, .class_ 4), (0, u "java/lang/Object")] 6

/-- java/lang/constant/Constable -/
def k5 : Class := { plain "java/lang/constant/Constable" (some 0) with
  accessFlags := 1537
  interfaces := #[]
  cf := some (fileOf pool5 1 #[] #[] 1537 3 #[] #[])
  fields := #[]
  methods := #[]
  instanceTypes := #[]
  staticTypes := #[]
  resolved := Array.replicate 11 none
  statics := none }

def pool6 : Array CpInfo := pool [(1, .class_ 2), (0, u "java/lang/constant/ConstantDesc"), (0, .class_ 4), (0, u "java/lang/Object")] 32

/-- java/lang/constant/ConstantDesc -/
def k6 : Class := { plain "java/lang/constant/ConstantDesc" (some 0) with
  accessFlags := 1537
  interfaces := #[]
  cf := some (fileOf pool6 1 #[] #[] 1537 3 #[] #[])
  fields := #[]
  methods := #[]
  instanceTypes := #[]
  staticTypes := #[]
  resolved := Array.replicate 37 none
  statics := none }

def pool7 : Array CpInfo := pool [(1, .methodref 2 3), (0, .class_ 4), (0, .nameAndType 5 6), (0, u "java/lang/Object"), (0, u "<init>"), (0, u "()V"), (0, .string 8), (0, u ""), (0, .fieldref 10 11), (0, .class_ 12), (0, .nameAndType 13 14), (0, u "java/lang/String"), (0, u "value"), (0, u "[B"), (0, .fieldref 10 16), (0, .nameAndType 17 18), (0, u "coder"), (0, u "B"), (2, u "hash"), (0, u "I"), (2, u "hashIsZero"), (0, u "Z"), (0, .methodref 10 28), (0, .nameAndType 5 29), (0, u "([CIILjava/lang/Void;)V"), (7, u "(III)I"), (0, .fieldref 10 39), (0, .nameAndType 40 26), (0, u "COMPACT_STRINGS"), (1, .class_ 44), (1, u "java/lang/StringUTF16"), (0, u "compress"), (1, .methodref 42 48), (0, .nameAndType 49 50), (0, u "coderFromArrayLen"), (0, u "([BI)B"), (28, .class_ 81), (1, u "java/util/Objects"), (15, u "([BII)I"), (44, u "()Z"), (34, .methodref 42 178), (0, .nameAndType 45 179), (0, u "([CII)[B"), (154, u "()I"), (0, .methodref 10 336), (0, .nameAndType 17 337), (0, u "()B"), (154, .methodref 10 493), (0, .nameAndType 494 142), (0, u "isLatin1"), (10, .methodref 10 506), (0, .nameAndType 507 334), (0, u "length"), (3, .methodref 79 512), (0, .nameAndType 513 37), (0, u "checkFromToIndex"), (0, .methodref 42 515), (0, .nameAndType 516 97), (0, u "codePointCount"), (58, .class_ 576), (0, u "java/lang/CharSequence"), (22, u "CASE_INSENSITIVE_ORDER"), (0, u "Ljava/util/Comparator;"), (35, u "(II)I"), (373, u "([C)V"), (90, u "serialPersistentFields"), (0, u "[Ljava/io/ObjectStreamField;"), (0, .class_ 1104), (0, u "java/lang/String$CaseInsensitiveComparator"), (1, .class_ 1107), (0, u "java/io/Serializable"), (0, .class_ 1109), (0, u "java/lang/Comparable"), (0, .class_ 1111), (0, u "java/lang/constant/Constable"), (0, .class_ 1113), (0, u "java/lang/constant/ConstantDesc"), (2, u "serialVersionUID"), (0, u "J"), (3, u "REPL"), (0, u "C"), (2, u "LATIN1"), (1, u "UTF16")] 323

def k7m0 : Method := { name := "<init>", desc := "()V", sig := { parameters := [], returnType := none }, accessFlags := 1, code := none }
def k7c1 : Code := { maxStack := 5, maxLocals := 2, code := jdk_42_method_3_code, exceptionTable := #[], attributes := #[] }
def k7m1 : Method := { name := "<init>", desc := "([C)V", sig := { parameters := [(.array .char)], returnType := none }, accessFlags := 1, code := some k7c1 }
def k7c2 : Code := { maxStack := 2, maxLocals := 1, code := jdk_42_method_54_code, exceptionTable := #[], attributes := #[] }
def k7m2 : Method := { name := "length", desc := "()I", sig := { parameters := [], returnType := some .int }, accessFlags := 1, code := some k7c2 }
def k7c3 : Code := { maxStack := 3, maxLocals := 3, code := jdk_42_method_59_code, exceptionTable := #[], attributes := #[] }
def k7m3 : Method := { name := "codePointCount", desc := "(II)I", sig := { parameters := [.int, .int], returnType := some .int }, accessFlags := 1, code := some k7c3 }
def k7c4 : Code := { maxStack := 4, maxLocals := 6, code := jdk_42_method_149_code, exceptionTable := #[], attributes := #[] }
def k7m4 : Method := { name := "<init>", desc := "([CIILjava/lang/Void;)V", sig := { parameters := [(.array .char), .int, .int, (.object "java/lang/Void")], returnType := none }, accessFlags := 2, code := some k7c4 }
def k7c5 : Code := { maxStack := 1, maxLocals := 1, code := jdk_42_method_152_code, exceptionTable := #[], attributes := #[] }
def k7m5 : Method := { name := "coder", desc := "()B", sig := { parameters := [], returnType := some .byte }, accessFlags := 0, code := some k7c5 }
def k7c6 : Code := { maxStack := 1, maxLocals := 1, code := jdk_42_method_154_code, exceptionTable := #[], attributes := #[] }
def k7m6 : Method := { name := "isLatin1", desc := "()Z", sig := { parameters := [], returnType := some .boolean }, accessFlags := 0, code := some k7c6 }
/-- java/lang/String -/
def k7 : Class := { plain "java/lang/String" (some 0) with
  accessFlags := 49
  interfaces := #[2, 3, 4, 5, 6]
  cf := some (fileOf pool7 10 #[.nestMembers #[1103]] #[{ accessFlags := 1, nameIndex := 5, descriptorIndex := 6, attributes := #[] }, { accessFlags := 1, nameIndex := 5, descriptorIndex := 1010, attributes := #[] }, { accessFlags := 1, nameIndex := 507, descriptorIndex := 334, attributes := #[] }, { accessFlags := 1, nameIndex := 516, descriptorIndex := 636, attributes := #[] }, { accessFlags := 2, nameIndex := 5, descriptorIndex := 29, attributes := #[] }, { accessFlags := 0, nameIndex := 17, descriptorIndex := 337, attributes := #[] }, { accessFlags := 0, nameIndex := 494, descriptorIndex := 142, attributes := #[] }] 49 2 #[1106, 1108, 575, 1110, 1112] #[{ accessFlags := 18, nameIndex := 13, descriptorIndex := 14, attributes := #[] }, { accessFlags := 18, nameIndex := 17, descriptorIndex := 18, attributes := #[] }, { accessFlags := 2, nameIndex := 21, descriptorIndex := 22, attributes := #[] }, { accessFlags := 2, nameIndex := 25, descriptorIndex := 26, attributes := #[] }, { accessFlags := 26, nameIndex := 1116, descriptorIndex := 1117, attributes := #[] }, { accessFlags := 24, nameIndex := 40, descriptorIndex := 26, attributes := #[] }, { accessFlags := 26, nameIndex := 1101, descriptorIndex := 1102, attributes := #[] }, { accessFlags := 26, nameIndex := 1121, descriptorIndex := 1122, attributes := #[] }, { accessFlags := 25, nameIndex := 599, descriptorIndex := 600, attributes := #[] }, { accessFlags := 24, nameIndex := 1125, descriptorIndex := 18, attributes := #[] }, { accessFlags := 24, nameIndex := 1127, descriptorIndex := 18, attributes := #[] }])
  fields := #[{ name := "value", type := (.array .byte), accessFlags := 18, slot := 0, constantValue := 0 }, { name := "coder", type := .byte, accessFlags := 18, slot := 1, constantValue := 0 }, { name := "hash", type := .int, accessFlags := 2, slot := 2, constantValue := 0 }, { name := "hashIsZero", type := .boolean, accessFlags := 2, slot := 3, constantValue := 0 }, { name := "serialVersionUID", type := .long, accessFlags := 26, slot := 0, constantValue := 0 }, { name := "COMPACT_STRINGS", type := .boolean, accessFlags := 24, slot := 1, constantValue := 0 }, { name := "serialPersistentFields", type := (.array (.object "java/io/ObjectStreamField")), accessFlags := 26, slot := 2, constantValue := 0 }, { name := "REPL", type := .char, accessFlags := 26, slot := 3, constantValue := 0 }, { name := "CASE_INSENSITIVE_ORDER", type := (.object "java/util/Comparator"), accessFlags := 25, slot := 4, constantValue := 0 }, { name := "LATIN1", type := .byte, accessFlags := 24, slot := 5, constantValue := 0 }, { name := "UTF16", type := .byte, accessFlags := 24, slot := 6, constantValue := 0 }]
  methods := #[k7m0, k7m1, k7m2, k7m3, k7m4, k7m5, k7m6]
  instanceTypes := #[(.array .byte), .byte, .int, .boolean]
  staticTypes := #[.long, .boolean, (.array (.object "java/io/ObjectStreamField")), .char, (.object "java/util/Comparator"), .byte, .byte]
  resolved := Array.replicate 1451 none
  statics := some 0 }

def pool8 : Array CpInfo := pool [(1, .class_ 2), (0, u "java/lang/Math"), (1, .class_ 6), (1, u "java/lang/Object"), (0, u "<init>"), (0, u "()V"), (89, .class_ 100), (1, u "java/lang/Math$RandomNumberGeneratorHolder"), (71, u "negativeZeroFloatBits"), (0, u "J"), (2, u "negativeZeroDoubleBits"), (21, u "max"), (46, u "$assertionsDisabled"), (0, u "Z"), (88, u "(II)I"), (2, u "twoToTheDoubleScaleDown"), (0, u "D"), (4, u "twoToTheDoubleScaleUp"), (9, u "E"), (3, u "PI"), (2, u "TAU"), (2, u "DEGREES_TO_RADIANS"), (0, u "RADIANS_TO_DEGREES")] 94

def k8m0 : Method := { name := "<init>", desc := "()V", sig := { parameters := [], returnType := none }, accessFlags := 2, code := none }
def k8c1 : Code := { maxStack := 2, maxLocals := 2, code := jdk_29_method_65_code, exceptionTable := #[], attributes := #[] }
def k8m1 : Method := { name := "max", desc := "(II)I", sig := { parameters := [.int, .int], returnType := some .int }, accessFlags := 9, code := some k8c1 }
/-- java/lang/Math -/
def k8 : Class := { plain "java/lang/Math" (some 0) with
  accessFlags := 49
  interfaces := #[]
  cf := some (fileOf pool8 1 #[.nestMembers #[98]] #[{ accessFlags := 2, nameIndex := 7, descriptorIndex := 8, attributes := #[] }, { accessFlags := 9, nameIndex := 198, descriptorIndex := 335, attributes := #[] }] 49 4 #[] #[{ accessFlags := 25, nameIndex := 354, descriptorIndex := 339, attributes := #[] }, { accessFlags := 25, nameIndex := 358, descriptorIndex := 339, attributes := #[] }, { accessFlags := 25, nameIndex := 361, descriptorIndex := 339, attributes := #[] }, { accessFlags := 26, nameIndex := 364, descriptorIndex := 339, attributes := #[] }, { accessFlags := 26, nameIndex := 365, descriptorIndex := 339, attributes := #[] }, { accessFlags := 26, nameIndex := 172, descriptorIndex := 173, attributes := #[] }, { accessFlags := 26, nameIndex := 176, descriptorIndex := 173, attributes := #[] }, { accessFlags := 8, nameIndex := 344, descriptorIndex := 339, attributes := #[] }, { accessFlags := 8, nameIndex := 338, descriptorIndex := 339, attributes := #[] }, { accessFlags := 4120, nameIndex := 245, descriptorIndex := 246, attributes := #[] }])
  fields := #[{ name := "E", type := .double, accessFlags := 25, slot := 0, constantValue := 0 }, { name := "PI", type := .double, accessFlags := 25, slot := 1, constantValue := 0 }, { name := "TAU", type := .double, accessFlags := 25, slot := 2, constantValue := 0 }, { name := "DEGREES_TO_RADIANS", type := .double, accessFlags := 26, slot := 3, constantValue := 0 }, { name := "RADIANS_TO_DEGREES", type := .double, accessFlags := 26, slot := 4, constantValue := 0 }, { name := "negativeZeroFloatBits", type := .long, accessFlags := 26, slot := 5, constantValue := 0 }, { name := "negativeZeroDoubleBits", type := .long, accessFlags := 26, slot := 6, constantValue := 0 }, { name := "twoToTheDoubleScaleUp", type := .double, accessFlags := 8, slot := 7, constantValue := 0 }, { name := "twoToTheDoubleScaleDown", type := .double, accessFlags := 8, slot := 8, constantValue := 0 }, { name := "$assertionsDisabled", type := .boolean, accessFlags := 4120, slot := 9, constantValue := 0 }]
  methods := #[k8m0, k8m1]
  instanceTypes := #[]
  staticTypes := #[.double, .double, .double, .double, .double, .long, .long, .double, .double, .boolean]
  resolved := Array.replicate 460 none
  statics := none }

def pool9 : Array CpInfo := pool [(2, .class_ 4), (1, u "java/lang/Object"), (0, u "<init>"), (0, u "()V"), (0, .methodref 8 9), (0, .class_ 10), (0, .nameAndType 11 12), (0, u "java/lang/String"), (0, u "length"), (0, u "()I"), (0, .methodref 8 14), (0, .nameAndType 15 16), (0, u "codePointCount"), (0, u "(II)I"), (23, .class_ 41), (0, u "com/example/lease/lease/service/Sizes"), (2, u "checkCharacters"), (0, u "(Ljava/lang/String;Ljava/lang/String;I)V")] 22

def k9m0 : Method := { name := "<init>", desc := "()V", sig := { parameters := [], returnType := none }, accessFlags := 2, code := none }
def k9c1 : Code := { maxStack := 3, maxLocals := 3, code := prog_41_method_2_code, exceptionTable := #[], attributes := #[] }
def k9m1 : Method := { name := "checkCharacters", desc := "(Ljava/lang/String;Ljava/lang/String;I)V", sig := { parameters := [(.object "java/lang/String"), (.object "java/lang/String"), .int], returnType := none }, accessFlags := 8, code := some k9c1 }
/-- com/example/lease/lease/service/Sizes -/
def k9 : Class := { plain "com/example/lease/lease/service/Sizes" (some 0) with
  accessFlags := 48
  interfaces := #[]
  cf := some (fileOf pool9 40 #[] #[{ accessFlags := 2, nameIndex := 5, descriptorIndex := 6, attributes := #[] }, { accessFlags := 8, nameIndex := 44, descriptorIndex := 45, attributes := #[] }] 48 2 #[] #[])
  fields := #[]
  methods := #[k9m0, k9m1]
  instanceTypes := #[]
  staticTypes := #[]
  resolved := Array.replicate 68 none
  statics := none }

def pool10 : Array CpInfo := pool [(2, .class_ 4), (1, u "java/lang/Object"), (0, u "<init>"), (0, u "()V"), (35, .class_ 44), (1, u "java/util/Objects"), (61, .class_ 108), (1, u "jdk/internal/util/Preconditions"), (2, .methodref 106 112), (0, .nameAndType 113 114), (0, u "checkFromToIndex"), (0, u "(IIILjava/util/function/BiFunction;)I"), (60, u "(III)I")] 8

def k10m0 : Method := { name := "<init>", desc := "()V", sig := { parameters := [], returnType := none }, accessFlags := 2, code := none }
def k10c1 : Code := { maxStack := 4, maxLocals := 3, code := jdk_31_method_18_code, exceptionTable := #[], attributes := #[] }
def k10m1 : Method := { name := "checkFromToIndex", desc := "(III)I", sig := { parameters := [.int, .int, .int], returnType := some .int }, accessFlags := 9, code := some k10c1 }
/-- java/util/Objects -/
def k10 : Class := { plain "java/util/Objects" (some 0) with
  accessFlags := 49
  interfaces := #[]
  cf := some (fileOf pool10 42 #[] #[{ accessFlags := 2, nameIndex := 5, descriptorIndex := 6, attributes := #[] }, { accessFlags := 9, nameIndex := 113, descriptorIndex := 175, attributes := #[] }] 49 2 #[] #[])
  fields := #[]
  methods := #[k10m0, k10m1]
  instanceTypes := #[]
  staticTypes := #[]
  resolved := Array.replicate 184 none
  statics := none }

def pool11 : Array CpInfo := pool [(2, .class_ 4), (1, u "java/lang/Object"), (0, u "<init>"), (0, u "()V"), (17, .class_ 26), (1, u "jdk/internal/util/Preconditions"), (20, u "checkFromToIndex"), (7, .class_ 56), (0, u "jdk/internal/util/Preconditions$4"), (57, .class_ 115), (0, u "jdk/internal/util/Preconditions$1"), (7, u "SIOOBE_FORMATTER"), (0, u "Ljava/util/function/BiFunction;"), (0, .class_ 126), (0, u "jdk/internal/util/Preconditions$2"), (3, u "AIOOBE_FORMATTER"), (0, .class_ 132), (0, u "jdk/internal/util/Preconditions$3"), (3, u "IOOBE_FORMATTER"), (46, u "(IIILjava/util/function/BiFunction;)I")] 10

def k11m0 : Method := { name := "<init>", desc := "()V", sig := { parameters := [], returnType := none }, accessFlags := 1, code := none }
def k11c1 : Code := { maxStack := 4, maxLocals := 4, code := jdk_41_method_12_code, exceptionTable := #[], attributes := #[] }
def k11m1 : Method := { name := "checkFromToIndex", desc := "(IIILjava/util/function/BiFunction;)I", sig := { parameters := [.int, .int, .int, (.object "java/util/function/BiFunction")], returnType := some .int }, accessFlags := 9, code := some k11c1 }
/-- jdk/internal/util/Preconditions -/
def k11 : Class := { plain "jdk/internal/util/Preconditions" (some 0) with
  accessFlags := 33
  interfaces := #[]
  cf := some (fileOf pool11 24 #[.nestMembers #[55, 131, 125, 114]] #[{ accessFlags := 1, nameIndex := 5, descriptorIndex := 6, attributes := #[] }, { accessFlags := 9, nameIndex := 47, descriptorIndex := 183, attributes := #[] }] 33 2 #[] #[{ accessFlags := 25, nameIndex := 123, descriptorIndex := 124, attributes := #[] }, { accessFlags := 25, nameIndex := 130, descriptorIndex := 124, attributes := #[] }, { accessFlags := 25, nameIndex := 136, descriptorIndex := 124, attributes := #[] }])
  fields := #[{ name := "SIOOBE_FORMATTER", type := (.object "java/util/function/BiFunction"), accessFlags := 25, slot := 0, constantValue := 0 }, { name := "AIOOBE_FORMATTER", type := (.object "java/util/function/BiFunction"), accessFlags := 25, slot := 1, constantValue := 0 }, { name := "IOOBE_FORMATTER", type := (.object "java/util/function/BiFunction"), accessFlags := 25, slot := 2, constantValue := 0 }]
  methods := #[k11m0, k11m1]
  instanceTypes := #[]
  staticTypes := #[(.object "java/util/function/BiFunction"), (.object "java/util/function/BiFunction"), (.object "java/util/function/BiFunction")]
  resolved := Array.replicate 194 none
  statics := some 1 }

def pool12 : Array CpInfo := pool [(6, .class_ 8), (1, u "java/lang/Object"), (0, u "<init>"), (0, u "()V"), (0, .methodref 12 13), (0, .class_ 14), (0, .nameAndType 15 16), (0, u "java/lang/StringUTF16"), (0, u "newBytesLength"), (0, u "(I)I"), (3, .integer 1073741823), (23, .fieldref 12 45), (0, .nameAndType 46 47), (0, u "$assertionsDisabled"), (0, u "Z"), (11, .fieldref 12 60), (0, .nameAndType 61 62), (0, u "HI_BYTE_SHIFT"), (0, u "I"), (0, .fieldref 12 64), (0, .nameAndType 65 62), (0, u "LO_BYTE_SHIFT"), (5, .methodref 12 72), (0, .nameAndType 73 74), (0, u "getChar"), (0, u "([BI)C"), (0, .methodref 76 77), (0, .class_ 78), (0, .nameAndType 79 80), (0, u "java/lang/Character"), (0, u "isHighSurrogate"), (0, u "(C)Z"), (0, .methodref 76 82), (0, .nameAndType 83 80), (0, u "isLowSurrogate"), (7, u "([BIIZ)I"), (8, .methodref 12 101), (0, .nameAndType 102 91), (0, u "codePointCount"), (4, .methodref 12 108), (0, .nameAndType 109 110), (0, u "newBytesFor"), (0, u "(I)[B"), (0, .methodref 12 112), (0, .nameAndType 113 114), (0, u "putChar"), (0, u "([BII)V"), (0, .methodref 12 116), (0, .nameAndType 117 118), (0, u "compress"), (0, u "([CI[BII)I"), (0, .methodref 12 120), (0, .nameAndType 121 122), (0, u "toBytes"), (0, u "([CII)[B"), (127, u "([BII)I"), (10, u "coderFromArrayLen"), (0, u "([BI)B"), (106, .class_ 371), (1, u "java/lang/StringUTF16$LinesSpliterator"), (58, u "MAX_LENGTH"), (196, .class_ 628), (0, u "java/lang/StringUTF16$CodePointsSpliterator"), (0, .class_ 630), (0, u "java/lang/StringUTF16$CharsSpliterator")] 4

def k12m0 : Method := { name := "<init>", desc := "()V", sig := { parameters := [], returnType := none }, accessFlags := 0, code := none }
def k12c1 : Code := { maxStack := 1, maxLocals := 1, code := jdk_52_method_2_code, exceptionTable := #[], attributes := #[] }
def k12m1 : Method := { name := "newBytesFor", desc := "(I)[B", sig := { parameters := [.int], returnType := some (.array .byte) }, accessFlags := 9, code := some k12c1 }
def k12c2 : Code := { maxStack := 4, maxLocals := 1, code := jdk_52_method_3_code, exceptionTable := #[], attributes := #[] }
def k12m2 : Method := { name := "newBytesLength", desc := "(I)I", sig := { parameters := [.int], returnType := some .int }, accessFlags := 9, code := some k12c2 }
def k12c3 : Code := { maxStack := 4, maxLocals := 3, code := jdk_52_method_4_code, exceptionTable := #[], attributes := #[] }
def k12m3 : Method := { name := "putChar", desc := "([BII)V", sig := { parameters := [(.array .byte), .int, .int], returnType := none }, accessFlags := 8, code := some k12c3 }
def k12c4 : Code := { maxStack := 3, maxLocals := 2, code := jdk_52_method_5_code, exceptionTable := #[], attributes := #[] }
def k12m4 : Method := { name := "getChar", desc := "([BI)C", sig := { parameters := [(.array .byte), .int], returnType := some .char }, accessFlags := 8, code := some k12c4 }
def k12c5 : Code := { maxStack := 3, maxLocals := 6, code := jdk_52_method_11_code, exceptionTable := #[], attributes := #[] }
def k12m5 : Method := { name := "codePointCount", desc := "([BIIZ)I", sig := { parameters := [(.array .byte), .int, .int, .boolean], returnType := some .int }, accessFlags := 10, code := some k12c5 }
def k12c6 : Code := { maxStack := 4, maxLocals := 3, code := jdk_52_method_12_code, exceptionTable := #[], attributes := #[] }
def k12m6 : Method := { name := "codePointCount", desc := "([BII)I", sig := { parameters := [(.array .byte), .int, .int], returnType := some .int }, accessFlags := 9, code := some k12c6 }
def k12c7 : Code := { maxStack := 4, maxLocals := 5, code := jdk_52_method_14_code, exceptionTable := #[], attributes := #[] }
def k12m7 : Method := { name := "toBytes", desc := "([CII)[B", sig := { parameters := [(.array .char), .int, .int], returnType := some (.array .byte) }, accessFlags := 9, code := some k12c7 }
def k12c8 : Code := { maxStack := 2, maxLocals := 2, code := jdk_52_method_15_code, exceptionTable := #[], attributes := #[] }
def k12m8 : Method := { name := "coderFromArrayLen", desc := "([BI)B", sig := { parameters := [(.array .byte), .int], returnType := some .byte }, accessFlags := 8, code := some k12c8 }
def k12c9 : Code := { maxStack := 5, maxLocals := 6, code := jdk_52_method_16_code, exceptionTable := #[], attributes := #[] }
def k12m9 : Method := { name := "compress", desc := "([CII)[B", sig := { parameters := [(.array .char), .int, .int], returnType := some (.array .byte) }, accessFlags := 9, code := some k12c9 }
def k12c10 : Code := { maxStack := 3, maxLocals := 7, code := jdk_52_method_21_code, exceptionTable := #[], attributes := #[] }
def k12m10 : Method := { name := "compress", desc := "([CI[BII)I", sig := { parameters := [(.array .char), .int, (.array .byte), .int, .int], returnType := some .int }, accessFlags := 9, code := some k12c10 }
/-- java/lang/StringUTF16 -/
def k12 : Class := { plain "java/lang/StringUTF16" (some 0) with
  accessFlags := 48
  interfaces := #[]
  cf := some (fileOf pool12 12 #[.nestMembers #[627, 629, 369]] #[{ accessFlags := 0, nameIndex := 9, descriptorIndex := 10, attributes := #[] }, { accessFlags := 9, nameIndex := 109, descriptorIndex := 110, attributes := #[] }, { accessFlags := 9, nameIndex := 15, descriptorIndex := 16, attributes := #[] }, { accessFlags := 8, nameIndex := 113, descriptorIndex := 114, attributes := #[] }, { accessFlags := 8, nameIndex := 73, descriptorIndex := 74, attributes := #[] }, { accessFlags := 10, nameIndex := 102, descriptorIndex := 91, attributes := #[] }, { accessFlags := 9, nameIndex := 102, descriptorIndex := 250, attributes := #[] }, { accessFlags := 9, nameIndex := 121, descriptorIndex := 122, attributes := #[] }, { accessFlags := 8, nameIndex := 261, descriptorIndex := 262, attributes := #[] }, { accessFlags := 9, nameIndex := 117, descriptorIndex := 122, attributes := #[] }, { accessFlags := 9, nameIndex := 117, descriptorIndex := 118, attributes := #[] }] 48 6 #[] #[{ accessFlags := 26, nameIndex := 61, descriptorIndex := 62, attributes := #[] }, { accessFlags := 26, nameIndex := 65, descriptorIndex := 62, attributes := #[] }, { accessFlags := 24, nameIndex := 430, descriptorIndex := 62, attributes := #[] }, { accessFlags := 4120, nameIndex := 46, descriptorIndex := 47, attributes := #[] }])
  fields := #[{ name := "HI_BYTE_SHIFT", type := .int, accessFlags := 26, slot := 0, constantValue := 0 }, { name := "LO_BYTE_SHIFT", type := .int, accessFlags := 26, slot := 1, constantValue := 0 }, { name := "MAX_LENGTH", type := .int, accessFlags := 24, slot := 2, constantValue := 0 }, { name := "$assertionsDisabled", type := .boolean, accessFlags := 4120, slot := 3, constantValue := 0 }]
  methods := #[k12m0, k12m1, k12m2, k12m3, k12m4, k12m5, k12m6, k12m7, k12m8, k12m9, k12m10]
  instanceTypes := #[]
  staticTypes := #[.int, .int, .int, .boolean]
  resolved := Array.replicate 635 none
  statics := some 2 }

def pool13 : Array CpInfo := pool [(1, .class_ 2), (0, u "java/lang/Character"), (18, u "value"), (0, u "C"), (19, .class_ 44), (1, u "java/lang/Object"), (3, .class_ 50), (1, u "java/lang/Character$CharacterCache"), (24, .integer 55296), (0, .integer 56320), (0, .integer 57344), (2, u "isHighSurrogate"), (0, u "(C)Z"), (2, u "isLowSurrogate"), (199, u "$assertionsDisabled"), (0, u "Z"), (21, .class_ 309), (1, u "java/lang/Character$UnicodeBlock"), (73, u "TYPE"), (0, u "Ljava/lang/Class;"), (0, .class_ 386), (0, u "java/io/Serializable"), (0, .class_ 388), (0, u "java/lang/Comparable"), (0, .class_ 390), (0, u "java/lang/constant/Constable"), (0, u "MIN_RADIX"), (0, u "I"), (2, u "MAX_RADIX"), (1, u "MIN_VALUE"), (1, u "MAX_VALUE"), (3, u "UNASSIGNED"), (0, u "B"), (0, u "UPPERCASE_LETTER"), (1, u "LOWERCASE_LETTER"), (0, u "TITLECASE_LETTER"), (1, u "MODIFIER_LETTER"), (1, u "OTHER_LETTER"), (1, u "NON_SPACING_MARK"), (1, u "ENCLOSING_MARK"), (1, u "COMBINING_SPACING_MARK"), (1, u "DECIMAL_DIGIT_NUMBER"), (1, u "LETTER_NUMBER"), (1, u "OTHER_NUMBER"), (1, u "SPACE_SEPARATOR"), (1, u "LINE_SEPARATOR"), (1, u "PARAGRAPH_SEPARATOR"), (1, u "CONTROL"), (1, u "FORMAT"), (1, u "PRIVATE_USE"), (1, u "SURROGATE"), (1, u "DASH_PUNCTUATION"), (1, u "START_PUNCTUATION"), (1, u "END_PUNCTUATION"), (1, u "CONNECTOR_PUNCTUATION"), (1, u "OTHER_PUNCTUATION"), (1, u "MATH_SYMBOL"), (1, u "CURRENCY_SYMBOL"), (1, u "MODIFIER_SYMBOL"), (1, u "OTHER_SYMBOL"), (1, u "INITIAL_QUOTE_PUNCTUATION"), (1, u "FINAL_QUOTE_PUNCTUATION"), (1, u "ERROR"), (1, u "DIRECTIONALITY_UNDEFINED"), (0, u "DIRECTIONALITY_LEFT_TO_RIGHT"), (0, u "DIRECTIONALITY_RIGHT_TO_LEFT"), (0, u "DIRECTIONALITY_RIGHT_TO_LEFT_ARABIC"), (0, u "DIRECTIONALITY_EUROPEAN_NUMBER"), (0, u "DIRECTIONALITY_EUROPEAN_NUMBER_SEPARATOR"), (0, u "DIRECTIONALITY_EUROPEAN_NUMBER_TERMINATOR"), (0, u "DIRECTIONALITY_ARABIC_NUMBER"), (0, u "DIRECTIONALITY_COMMON_NUMBER_SEPARATOR"), (0, u "DIRECTIONALITY_NONSPACING_MARK"), (0, u "DIRECTIONALITY_BOUNDARY_NEUTRAL"), (0, u "DIRECTIONALITY_PARAGRAPH_SEPARATOR"), (0, u "DIRECTIONALITY_SEGMENT_SEPARATOR"), (0, u "DIRECTIONALITY_WHITESPACE"), (0, u "DIRECTIONALITY_OTHER_NEUTRALS"), (0, u "DIRECTIONALITY_LEFT_TO_RIGHT_EMBEDDING"), (0, u "DIRECTIONALITY_LEFT_TO_RIGHT_OVERRIDE"), (0, u "DIRECTIONALITY_RIGHT_TO_LEFT_EMBEDDING"), (0, u "DIRECTIONALITY_RIGHT_TO_LEFT_OVERRIDE"), (1, u "DIRECTIONALITY_POP_DIRECTIONAL_FORMAT"), (0, u "DIRECTIONALITY_LEFT_TO_RIGHT_ISOLATE"), (0, u "DIRECTIONALITY_RIGHT_TO_LEFT_ISOLATE"), (0, u "DIRECTIONALITY_FIRST_STRONG_ISOLATE"), (0, u "DIRECTIONALITY_POP_DIRECTIONAL_ISOLATE"), (0, u "MIN_HIGH_SURROGATE"), (0, u "MAX_HIGH_SURROGATE"), (1, u "MIN_LOW_SURROGATE"), (0, u "MAX_LOW_SURROGATE"), (1, u "MIN_SURROGATE"), (0, u "MAX_SURROGATE"), (0, u "MIN_SUPPLEMENTARY_CODE_POINT"), (0, u "MIN_CODE_POINT"), (0, u "MAX_CODE_POINT"), (1, u "serialVersionUID"), (0, u "J"), (2, u "SIZE"), (0, u "BYTES"), (88, .class_ 596), (0, u "java/lang/Character$UnicodeScript"), (0, .class_ 598), (0, u "java/lang/Character$Subset")] 5

def k13c0 : Code := { maxStack := 2, maxLocals := 1, code := jdk_89_method_14_code, exceptionTable := #[], attributes := #[] }
def k13m0 : Method := { name := "isHighSurrogate", desc := "(C)Z", sig := { parameters := [.char], returnType := some .boolean }, accessFlags := 9, code := some k13c0 }
def k13c1 : Code := { maxStack := 2, maxLocals := 1, code := jdk_89_method_15_code, exceptionTable := #[], attributes := #[] }
def k13m1 : Method := { name := "isLowSurrogate", desc := "(C)Z", sig := { parameters := [.char], returnType := some .boolean }, accessFlags := 9, code := some k13c1 }
/-- java/lang/Character -/
def k13 : Class := { plain "java/lang/Character" (some 0) with
  accessFlags := 49
  interfaces := #[2, 3, 5]
  cf := some (fileOf pool13 1 #[.nestMembers #[48, 595, 307, 597]] #[{ accessFlags := 9, nameIndex := 80, descriptorIndex := 81, attributes := #[] }, { accessFlags := 9, nameIndex := 84, descriptorIndex := 81, attributes := #[] }] 49 42 #[385, 387, 389] #[{ accessFlags := 25, nameIndex := 391, descriptorIndex := 392, attributes := #[] }, { accessFlags := 25, nameIndex := 395, descriptorIndex := 392, attributes := #[] }, { accessFlags := 25, nameIndex := 397, descriptorIndex := 22, attributes := #[] }, { accessFlags := 25, nameIndex := 399, descriptorIndex := 22, attributes := #[] }, { accessFlags := 25, nameIndex := 383, descriptorIndex := 384, attributes := #[] }, { accessFlags := 25, nameIndex := 403, descriptorIndex := 404, attributes := #[] }, { accessFlags := 25, nameIndex := 405, descriptorIndex := 404, attributes := #[] }, { accessFlags := 25, nameIndex := 407, descriptorIndex := 404, attributes := #[] }, { accessFlags := 25, nameIndex := 408, descriptorIndex := 404, attributes := #[] }, { accessFlags := 25, nameIndex := 410, descriptorIndex := 404, attributes := #[] }, { accessFlags := 25, nameIndex := 412, descriptorIndex := 404, attributes := #[] }, { accessFlags := 25, nameIndex := 414, descriptorIndex := 404, attributes := #[] }, { accessFlags := 25, nameIndex := 416, descriptorIndex := 404, attributes := #[] }, { accessFlags := 25, nameIndex := 418, descriptorIndex := 404, attributes := #[] }, { accessFlags := 25, nameIndex := 420, descriptorIndex := 404, attributes := #[] }, { accessFlags := 25, nameIndex := 422, descriptorIndex := 404, attributes := #[] }, { accessFlags := 25, nameIndex := 424, descriptorIndex := 404, attributes := #[] }, { accessFlags := 25, nameIndex := 426, descriptorIndex := 404, attributes := #[] }, { accessFlags := 25, nameIndex := 428, descriptorIndex := 404, attributes := #[] }, { accessFlags := 25, nameIndex := 430, descriptorIndex := 404, attributes := #[] }, { accessFlags := 25, nameIndex := 432, descriptorIndex := 404, attributes := #[] }, { accessFlags := 25, nameIndex := 434, descriptorIndex := 404, attributes := #[] }, { accessFlags := 25, nameIndex := 436, descriptorIndex := 404, attributes := #[] }, { accessFlags := 25, nameIndex := 438, descriptorIndex := 404, attributes := #[] }, { accessFlags := 25, nameIndex := 440, descriptorIndex := 404, attributes := #[] }, { accessFlags := 25, nameIndex := 442, descriptorIndex := 404, attributes := #[] }, { accessFlags := 25, nameIndex := 444, descriptorIndex := 404, attributes := #[] }, { accessFlags := 25, nameIndex := 446, descriptorIndex := 404, attributes := #[] }, { accessFlags := 25, nameIndex := 448, descriptorIndex := 404, attributes := #[] }, { accessFlags := 25, nameIndex := 450, descriptorIndex := 404, attributes := #[] }, { accessFlags := 25, nameIndex := 452, descriptorIndex := 404, attributes := #[] }, { accessFlags := 25, nameIndex := 454, descriptorIndex := 404, attributes := #[] }, { accessFlags := 25, nameIndex := 456, descriptorIndex := 404, attributes := #[] }, { accessFlags := 25, nameIndex := 458, descriptorIndex := 404, attributes := #[] }, { accessFlags := 25, nameIndex := 460, descriptorIndex := 404, attributes := #[] }, { accessFlags := 24, nameIndex := 462, descriptorIndex := 392, attributes := #[] }, { accessFlags := 25, nameIndex := 464, descriptorIndex := 404, attributes := #[] }, { accessFlags := 25, nameIndex := 465, descriptorIndex := 404, attributes := #[] }, { accessFlags := 25, nameIndex := 466, descriptorIndex := 404, attributes := #[] }, { accessFlags := 25, nameIndex := 467, descriptorIndex := 404, attributes := #[] }, { accessFlags := 25, nameIndex := 468, descriptorIndex := 404, attributes := #[] }, { accessFlags := 25, nameIndex := 469, descriptorIndex := 404, attributes := #[] }, { accessFlags := 25, nameIndex := 470, descriptorIndex := 404, attributes := #[] }, { accessFlags := 25, nameIndex := 471, descriptorIndex := 404, attributes := #[] }, { accessFlags := 25, nameIndex := 472, descriptorIndex := 404, attributes := #[] }, { accessFlags := 25, nameIndex := 473, descriptorIndex := 404, attributes := #[] }, { accessFlags := 25, nameIndex := 474, descriptorIndex := 404, attributes := #[] }, { accessFlags := 25, nameIndex := 475, descriptorIndex := 404, attributes := #[] }, { accessFlags := 25, nameIndex := 476, descriptorIndex := 404, attributes := #[] }, { accessFlags := 25, nameIndex := 477, descriptorIndex := 404, attributes := #[] }, { accessFlags := 25, nameIndex := 478, descriptorIndex := 404, attributes := #[] }, { accessFlags := 25, nameIndex := 479, descriptorIndex := 404, attributes := #[] }, { accessFlags := 25, nameIndex := 480, descriptorIndex := 404, attributes := #[] }, { accessFlags := 25, nameIndex := 481, descriptorIndex := 404, attributes := #[] }, { accessFlags := 25, nameIndex := 482, descriptorIndex := 404, attributes := #[] }, { accessFlags := 25, nameIndex := 484, descriptorIndex := 404, attributes := #[] }, { accessFlags := 25, nameIndex := 485, descriptorIndex := 404, attributes := #[] }, { accessFlags := 25, nameIndex := 486, descriptorIndex := 404, attributes := #[] }, { accessFlags := 25, nameIndex := 487, descriptorIndex := 404, attributes := #[] }, { accessFlags := 25, nameIndex := 488, descriptorIndex := 404, attributes := #[] }, { accessFlags := 25, nameIndex := 489, descriptorIndex := 22, attributes := #[] }, { accessFlags := 25, nameIndex := 490, descriptorIndex := 22, attributes := #[] }, { accessFlags := 25, nameIndex := 492, descriptorIndex := 22, attributes := #[] }, { accessFlags := 25, nameIndex := 493, descriptorIndex := 22, attributes := #[] }, { accessFlags := 25, nameIndex := 495, descriptorIndex := 22, attributes := #[] }, { accessFlags := 25, nameIndex := 496, descriptorIndex := 22, attributes := #[] }, { accessFlags := 25, nameIndex := 497, descriptorIndex := 392, attributes := #[] }, { accessFlags := 25, nameIndex := 498, descriptorIndex := 392, attributes := #[] }, { accessFlags := 25, nameIndex := 499, descriptorIndex := 392, attributes := #[] }, { accessFlags := 18, nameIndex := 21, descriptorIndex := 22, attributes := #[] }, { accessFlags := 26, nameIndex := 501, descriptorIndex := 502, attributes := #[] }, { accessFlags := 25, nameIndex := 505, descriptorIndex := 392, attributes := #[] }, { accessFlags := 25, nameIndex := 506, descriptorIndex := 392, attributes := #[] }, { accessFlags := 4120, nameIndex := 284, descriptorIndex := 285, attributes := #[] }])
  fields := #[{ name := "MIN_RADIX", type := .int, accessFlags := 25, slot := 0, constantValue := 0 }, { name := "MAX_RADIX", type := .int, accessFlags := 25, slot := 1, constantValue := 0 }, { name := "MIN_VALUE", type := .char, accessFlags := 25, slot := 2, constantValue := 0 }, { name := "MAX_VALUE", type := .char, accessFlags := 25, slot := 3, constantValue := 0 }, { name := "TYPE", type := (.object "java/lang/Class"), accessFlags := 25, slot := 4, constantValue := 0 }, { name := "UNASSIGNED", type := .byte, accessFlags := 25, slot := 5, constantValue := 0 }, { name := "UPPERCASE_LETTER", type := .byte, accessFlags := 25, slot := 6, constantValue := 0 }, { name := "LOWERCASE_LETTER", type := .byte, accessFlags := 25, slot := 7, constantValue := 0 }, { name := "TITLECASE_LETTER", type := .byte, accessFlags := 25, slot := 8, constantValue := 0 }, { name := "MODIFIER_LETTER", type := .byte, accessFlags := 25, slot := 9, constantValue := 0 }, { name := "OTHER_LETTER", type := .byte, accessFlags := 25, slot := 10, constantValue := 0 }, { name := "NON_SPACING_MARK", type := .byte, accessFlags := 25, slot := 11, constantValue := 0 }, { name := "ENCLOSING_MARK", type := .byte, accessFlags := 25, slot := 12, constantValue := 0 }, { name := "COMBINING_SPACING_MARK", type := .byte, accessFlags := 25, slot := 13, constantValue := 0 }, { name := "DECIMAL_DIGIT_NUMBER", type := .byte, accessFlags := 25, slot := 14, constantValue := 0 }, { name := "LETTER_NUMBER", type := .byte, accessFlags := 25, slot := 15, constantValue := 0 }, { name := "OTHER_NUMBER", type := .byte, accessFlags := 25, slot := 16, constantValue := 0 }, { name := "SPACE_SEPARATOR", type := .byte, accessFlags := 25, slot := 17, constantValue := 0 }, { name := "LINE_SEPARATOR", type := .byte, accessFlags := 25, slot := 18, constantValue := 0 }, { name := "PARAGRAPH_SEPARATOR", type := .byte, accessFlags := 25, slot := 19, constantValue := 0 }, { name := "CONTROL", type := .byte, accessFlags := 25, slot := 20, constantValue := 0 }, { name := "FORMAT", type := .byte, accessFlags := 25, slot := 21, constantValue := 0 }, { name := "PRIVATE_USE", type := .byte, accessFlags := 25, slot := 22, constantValue := 0 }, { name := "SURROGATE", type := .byte, accessFlags := 25, slot := 23, constantValue := 0 }, { name := "DASH_PUNCTUATION", type := .byte, accessFlags := 25, slot := 24, constantValue := 0 }, { name := "START_PUNCTUATION", type := .byte, accessFlags := 25, slot := 25, constantValue := 0 }, { name := "END_PUNCTUATION", type := .byte, accessFlags := 25, slot := 26, constantValue := 0 }, { name := "CONNECTOR_PUNCTUATION", type := .byte, accessFlags := 25, slot := 27, constantValue := 0 }, { name := "OTHER_PUNCTUATION", type := .byte, accessFlags := 25, slot := 28, constantValue := 0 }, { name := "MATH_SYMBOL", type := .byte, accessFlags := 25, slot := 29, constantValue := 0 }, { name := "CURRENCY_SYMBOL", type := .byte, accessFlags := 25, slot := 30, constantValue := 0 }, { name := "MODIFIER_SYMBOL", type := .byte, accessFlags := 25, slot := 31, constantValue := 0 }, { name := "OTHER_SYMBOL", type := .byte, accessFlags := 25, slot := 32, constantValue := 0 }, { name := "INITIAL_QUOTE_PUNCTUATION", type := .byte, accessFlags := 25, slot := 33, constantValue := 0 }, { name := "FINAL_QUOTE_PUNCTUATION", type := .byte, accessFlags := 25, slot := 34, constantValue := 0 }, { name := "ERROR", type := .int, accessFlags := 24, slot := 35, constantValue := 0 }, { name := "DIRECTIONALITY_UNDEFINED", type := .byte, accessFlags := 25, slot := 36, constantValue := 0 }, { name := "DIRECTIONALITY_LEFT_TO_RIGHT", type := .byte, accessFlags := 25, slot := 37, constantValue := 0 }, { name := "DIRECTIONALITY_RIGHT_TO_LEFT", type := .byte, accessFlags := 25, slot := 38, constantValue := 0 }, { name := "DIRECTIONALITY_RIGHT_TO_LEFT_ARABIC", type := .byte, accessFlags := 25, slot := 39, constantValue := 0 }, { name := "DIRECTIONALITY_EUROPEAN_NUMBER", type := .byte, accessFlags := 25, slot := 40, constantValue := 0 }, { name := "DIRECTIONALITY_EUROPEAN_NUMBER_SEPARATOR", type := .byte, accessFlags := 25, slot := 41, constantValue := 0 }, { name := "DIRECTIONALITY_EUROPEAN_NUMBER_TERMINATOR", type := .byte, accessFlags := 25, slot := 42, constantValue := 0 }, { name := "DIRECTIONALITY_ARABIC_NUMBER", type := .byte, accessFlags := 25, slot := 43, constantValue := 0 }, { name := "DIRECTIONALITY_COMMON_NUMBER_SEPARATOR", type := .byte, accessFlags := 25, slot := 44, constantValue := 0 }, { name := "DIRECTIONALITY_NONSPACING_MARK", type := .byte, accessFlags := 25, slot := 45, constantValue := 0 }, { name := "DIRECTIONALITY_BOUNDARY_NEUTRAL", type := .byte, accessFlags := 25, slot := 46, constantValue := 0 }, { name := "DIRECTIONALITY_PARAGRAPH_SEPARATOR", type := .byte, accessFlags := 25, slot := 47, constantValue := 0 }, { name := "DIRECTIONALITY_SEGMENT_SEPARATOR", type := .byte, accessFlags := 25, slot := 48, constantValue := 0 }, { name := "DIRECTIONALITY_WHITESPACE", type := .byte, accessFlags := 25, slot := 49, constantValue := 0 }, { name := "DIRECTIONALITY_OTHER_NEUTRALS", type := .byte, accessFlags := 25, slot := 50, constantValue := 0 }, { name := "DIRECTIONALITY_LEFT_TO_RIGHT_EMBEDDING", type := .byte, accessFlags := 25, slot := 51, constantValue := 0 }, { name := "DIRECTIONALITY_LEFT_TO_RIGHT_OVERRIDE", type := .byte, accessFlags := 25, slot := 52, constantValue := 0 }, { name := "DIRECTIONALITY_RIGHT_TO_LEFT_EMBEDDING", type := .byte, accessFlags := 25, slot := 53, constantValue := 0 }, { name := "DIRECTIONALITY_RIGHT_TO_LEFT_OVERRIDE", type := .byte, accessFlags := 25, slot := 54, constantValue := 0 }, { name := "DIRECTIONALITY_POP_DIRECTIONAL_FORMAT", type := .byte, accessFlags := 25, slot := 55, constantValue := 0 }, { name := "DIRECTIONALITY_LEFT_TO_RIGHT_ISOLATE", type := .byte, accessFlags := 25, slot := 56, constantValue := 0 }, { name := "DIRECTIONALITY_RIGHT_TO_LEFT_ISOLATE", type := .byte, accessFlags := 25, slot := 57, constantValue := 0 }, { name := "DIRECTIONALITY_FIRST_STRONG_ISOLATE", type := .byte, accessFlags := 25, slot := 58, constantValue := 0 }, { name := "DIRECTIONALITY_POP_DIRECTIONAL_ISOLATE", type := .byte, accessFlags := 25, slot := 59, constantValue := 0 }, { name := "MIN_HIGH_SURROGATE", type := .char, accessFlags := 25, slot := 60, constantValue := 0 }, { name := "MAX_HIGH_SURROGATE", type := .char, accessFlags := 25, slot := 61, constantValue := 0 }, { name := "MIN_LOW_SURROGATE", type := .char, accessFlags := 25, slot := 62, constantValue := 0 }, { name := "MAX_LOW_SURROGATE", type := .char, accessFlags := 25, slot := 63, constantValue := 0 }, { name := "MIN_SURROGATE", type := .char, accessFlags := 25, slot := 64, constantValue := 0 }, { name := "MAX_SURROGATE", type := .char, accessFlags := 25, slot := 65, constantValue := 0 }, { name := "MIN_SUPPLEMENTARY_CODE_POINT", type := .int, accessFlags := 25, slot := 66, constantValue := 0 }, { name := "MIN_CODE_POINT", type := .int, accessFlags := 25, slot := 67, constantValue := 0 }, { name := "MAX_CODE_POINT", type := .int, accessFlags := 25, slot := 68, constantValue := 0 }, { name := "value", type := .char, accessFlags := 18, slot := 0, constantValue := 0 }, { name := "serialVersionUID", type := .long, accessFlags := 26, slot := 69, constantValue := 0 }, { name := "SIZE", type := .int, accessFlags := 25, slot := 70, constantValue := 0 }, { name := "BYTES", type := .int, accessFlags := 25, slot := 71, constantValue := 0 }, { name := "$assertionsDisabled", type := .boolean, accessFlags := 4120, slot := 72, constantValue := 0 }]
  methods := #[k13m0, k13m1]
  instanceTypes := #[.char]
  staticTypes := #[.int, .int, .char, .char, (.object "java/lang/Class"), .byte, .byte, .byte, .byte, .byte, .byte, .byte, .byte, .byte, .byte, .byte, .byte, .byte, .byte, .byte, .byte, .byte, .byte, .byte, .byte, .byte, .byte, .byte, .byte, .byte, .byte, .byte, .byte, .byte, .byte, .int, .byte, .byte, .byte, .byte, .byte, .byte, .byte, .byte, .byte, .byte, .byte, .byte, .byte, .byte, .byte, .byte, .byte, .byte, .byte, .byte, .byte, .byte, .byte, .byte, .char, .char, .char, .char, .char, .char, .int, .int, .int, .long, .int, .int, .boolean]
  resolved := Array.replicate 604 none
  statics := none }

def pool14 : Array CpInfo := pool [(4, .class_ 6), (1, u "java/lang/Object"), (0, u "<init>"), (0, u "()V"), (5, .class_ 16), (1, u "java/lang/StringLatin1"), (104, u "$assertionsDisabled"), (0, u "Z"), (98, .class_ 223), (1, u "java/lang/StringLatin1$LinesSpliterator"), (166, .class_ 391), (0, u "java/lang/StringLatin1$CharsSpliterator")] 3

def k14m0 : Method := { name := "<init>", desc := "()V", sig := { parameters := [], returnType := none }, accessFlags := 0, code := none }
/-- java/lang/StringLatin1 -/
def k14 : Class := { plain "java/lang/StringLatin1" (some 0) with
  accessFlags := 48
  interfaces := #[]
  cf := some (fileOf pool14 14 #[.nestMembers #[390, 221]] #[{ accessFlags := 0, nameIndex := 7, descriptorIndex := 8, attributes := #[] }] 48 4 #[] #[{ accessFlags := 4120, nameIndex := 121, descriptorIndex := 122, attributes := #[] }])
  fields := #[{ name := "$assertionsDisabled", type := .boolean, accessFlags := 4120, slot := 0, constantValue := 0 }]
  methods := #[k14m0]
  instanceTypes := #[]
  staticTypes := #[.boolean]
  resolved := Array.replicate 395 none
  statics := none }

def pool15 : Array CpInfo := pool [(9, u "<init>"), (6, .class_ 18), (1, u "java/lang/Object"), (0, u "()V"), (1, .class_ 23), (1, u "jdk/internal/util/ArraysSupport"), (0, u "LOG2_ARRAY_LONG_INDEX_SCALE"), (0, u "I"), (2, u "U"), (0, u "Ljdk/internal/misc/Unsafe;"), (8, u "BIG_ENDIAN"), (0, u "Z"), (8, u "LOG2_BYTE_BIT_SIZE"), (4, u "LOG2_ARRAY_INT_INDEX_SCALE"), (54, u "JLA"), (0, u "Ljdk/internal/access/JavaLangAccess;"), (11, u "LOG2_ARRAY_BOOLEAN_INDEX_SCALE"), (9, u "LOG2_ARRAY_BYTE_INDEX_SCALE"), (5, u "LOG2_ARRAY_CHAR_INDEX_SCALE"), (5, u "LOG2_ARRAY_SHORT_INDEX_SCALE"), (18, u "LOG2_ARRAY_FLOAT_INDEX_SCALE"), (24, u "LOG2_ARRAY_DOUBLE_INDEX_SCALE"), (89, u "T_BOOLEAN"), (2, u "T_CHAR"), (1, u "T_FLOAT"), (1, u "T_DOUBLE"), (1, u "T_BYTE"), (1, u "T_SHORT"), (1, u "T_INT"), (1, u "T_LONG"), (1, u "SOFT_MAX_ARRAY_LENGTH")] 83

def k15m0 : Method := { name := "<init>", desc := "()V", sig := { parameters := [], returnType := none }, accessFlags := 2, code := none }
/-- jdk/internal/util/ArraysSupport -/
def k15 : Class := { plain "jdk/internal/util/ArraysSupport" (some 0) with
  accessFlags := 33
  interfaces := #[]
  cf := some (fileOf pool15 21 #[] #[{ accessFlags := 2, nameIndex := 9, descriptorIndex := 19, attributes := #[] }] 33 16 #[] #[{ accessFlags := 24, nameIndex := 28, descriptorIndex := 29, attributes := #[] }, { accessFlags := 26, nameIndex := 38, descriptorIndex := 39, attributes := #[] }, { accessFlags := 25, nameIndex := 121, descriptorIndex := 25, attributes := #[] }, { accessFlags := 25, nameIndex := 131, descriptorIndex := 25, attributes := #[] }, { accessFlags := 25, nameIndex := 137, descriptorIndex := 25, attributes := #[] }, { accessFlags := 25, nameIndex := 143, descriptorIndex := 25, attributes := #[] }, { accessFlags := 25, nameIndex := 53, descriptorIndex := 25, attributes := #[] }, { accessFlags := 25, nameIndex := 24, descriptorIndex := 25, attributes := #[] }, { accessFlags := 25, nameIndex := 162, descriptorIndex := 25, attributes := #[] }, { accessFlags := 25, nameIndex := 187, descriptorIndex := 25, attributes := #[] }, { accessFlags := 26, nameIndex := 48, descriptorIndex := 25, attributes := #[] }, { accessFlags := 25, nameIndex := 277, descriptorIndex := 25, attributes := #[] }, { accessFlags := 25, nameIndex := 280, descriptorIndex := 25, attributes := #[] }, { accessFlags := 25, nameIndex := 282, descriptorIndex := 25, attributes := #[] }, { accessFlags := 25, nameIndex := 284, descriptorIndex := 25, attributes := #[] }, { accessFlags := 25, nameIndex := 286, descriptorIndex := 25, attributes := #[] }, { accessFlags := 25, nameIndex := 288, descriptorIndex := 25, attributes := #[] }, { accessFlags := 25, nameIndex := 290, descriptorIndex := 25, attributes := #[] }, { accessFlags := 25, nameIndex := 292, descriptorIndex := 25, attributes := #[] }, { accessFlags := 26, nameIndex := 108, descriptorIndex := 109, attributes := #[] }, { accessFlags := 25, nameIndex := 294, descriptorIndex := 25, attributes := #[] }])
  fields := #[{ name := "U", type := (.object "jdk/internal/misc/Unsafe"), accessFlags := 24, slot := 0, constantValue := 0 }, { name := "BIG_ENDIAN", type := .boolean, accessFlags := 26, slot := 1, constantValue := 0 }, { name := "LOG2_ARRAY_BOOLEAN_INDEX_SCALE", type := .int, accessFlags := 25, slot := 2, constantValue := 0 }, { name := "LOG2_ARRAY_BYTE_INDEX_SCALE", type := .int, accessFlags := 25, slot := 3, constantValue := 0 }, { name := "LOG2_ARRAY_CHAR_INDEX_SCALE", type := .int, accessFlags := 25, slot := 4, constantValue := 0 }, { name := "LOG2_ARRAY_SHORT_INDEX_SCALE", type := .int, accessFlags := 25, slot := 5, constantValue := 0 }, { name := "LOG2_ARRAY_INT_INDEX_SCALE", type := .int, accessFlags := 25, slot := 6, constantValue := 0 }, { name := "LOG2_ARRAY_LONG_INDEX_SCALE", type := .int, accessFlags := 25, slot := 7, constantValue := 0 }, { name := "LOG2_ARRAY_FLOAT_INDEX_SCALE", type := .int, accessFlags := 25, slot := 8, constantValue := 0 }, { name := "LOG2_ARRAY_DOUBLE_INDEX_SCALE", type := .int, accessFlags := 25, slot := 9, constantValue := 0 }, { name := "LOG2_BYTE_BIT_SIZE", type := .int, accessFlags := 26, slot := 10, constantValue := 0 }, { name := "T_BOOLEAN", type := .int, accessFlags := 25, slot := 11, constantValue := 0 }, { name := "T_CHAR", type := .int, accessFlags := 25, slot := 12, constantValue := 0 }, { name := "T_FLOAT", type := .int, accessFlags := 25, slot := 13, constantValue := 0 }, { name := "T_DOUBLE", type := .int, accessFlags := 25, slot := 14, constantValue := 0 }, { name := "T_BYTE", type := .int, accessFlags := 25, slot := 15, constantValue := 0 }, { name := "T_SHORT", type := .int, accessFlags := 25, slot := 16, constantValue := 0 }, { name := "T_INT", type := .int, accessFlags := 25, slot := 17, constantValue := 0 }, { name := "T_LONG", type := .int, accessFlags := 25, slot := 18, constantValue := 0 }, { name := "JLA", type := (.object "jdk/internal/access/JavaLangAccess"), accessFlags := 26, slot := 19, constantValue := 0 }, { name := "SOFT_MAX_ARRAY_LENGTH", type := .int, accessFlags := 25, slot := 20, constantValue := 0 }]
  methods := #[k15m0]
  instanceTypes := #[]
  staticTypes := #[(.object "jdk/internal/misc/Unsafe"), .boolean, .int, .int, .int, .int, .int, .int, .int, .int, .int, .int, .int, .int, .int, .int, .int, .int, .int, (.object "jdk/internal/access/JavaLangAccess"), .int]
  resolved := Array.replicate 378 none
  statics := none }

def pool16 : Array CpInfo := pool [(1, u "java/lang/Cloneable"), (0, .class_ 1), (0, u "java/lang/Object"), (0, .class_ 3)] 3

/-- java/lang/Cloneable -/
def k16 : Class := { plain "java/lang/Cloneable" (some 0) with
  accessFlags := 1537
  interfaces := #[]
  cf := some (fileOf pool16 2 #[] #[] 1537 4 #[] #[])
  fields := #[]
  methods := #[]
  instanceTypes := #[]
  staticTypes := #[]
  resolved := Array.replicate 8 none
  statics := none }

/-- the primitive byte -/
def k17 : Class := { plain "byte" none with kind := .primitive 'B', accessFlags := 0x411 }
/-- [B -/
def k18 : Class := { plain "[B" (some 0) with kind := .array 17 .byte, interfaces := #[16, 2], accessFlags := 1041 }

/-- the primitive char -/
def k19 : Class := { plain "char" none with kind := .primitive 'C', accessFlags := 0x411 }
/-- [C -/
def k20 : Class := { plain "[C" (some 0) with kind := .array 19 .char, interfaces := #[16, 2], accessFlags := 1041 }

/-- the primitive int -/
def k21 : Class := { plain "int" none with kind := .primitive 'I', accessFlags := 0x411 }
/-- [I -/
def k22 : Class := { plain "[I" (some 0) with kind := .array 21 .int, interfaces := #[16, 2], accessFlags := 1041 }

def heap : Heap := #[{ cls := 7, slots := #[.long 0, .int 1, .null, .int 0, .null, .int 0, .int 0], vm := .statics 7 },
  { cls := 11, slots := #[.null, .null, .null], vm := .statics 11 },
  { cls := 12, slots := #[.int 0, .int 8, .int 0, .int 1], vm := .statics 12 }]
def classes : Array Class := #[k0, k1, k2, k3, k4, k5, k6, k7, k8, k9, k10, k11, k12, k13, k14, k15, k16, k17, k18, k19, k20, k21, k22]
def interned : List (Array UInt16 × Addr) := []
def slotsUsed : Nat := 14
def theMethod : MethodId := ⟨1, 3⟩
def args0 : Array Value := #[.int 7, .int 1, .int 2, .int 3, .int 4]
def aboutOver (below : List Frame) : State where
  vm := { classes := classes, interned := interned.toArray }
  heap := heap
  slotsUsed := slotsUsed
  threads := #[{ frames := .invoking theMethod args0 :: below }]
def below0 : List Frame := [.native { method := ⟨0, 0⟩, args := #[] }]
def about1 : State := aboutOver below0
def p0 : Program := .bare "" "" ""
def e0 : Env := launch0.env 0 0 0
theorem w_frames : about1.frames = Frame.invoking theMethod args0 :: below0 := rfl
set_option maxRecDepth 65536 in
theorem w_args : argsFit about1.vm theMethod args0 = true := by decide +kernel
set_option maxRecDepth 65536 in
theorem w_heap : heapFits about1 = true := by decide +kernel
set_option maxRecDepth 65536 in
theorem w_runnable : about1.curStatus? = some .runnable := by decide +kernel
set_option maxRecDepth 65536 in
theorem w_alone : about1.alone = true := by decide +kernel
set_option maxRecDepth 65536 in
theorem w_named : about1.methodNamed? x = some theMethod := by decide +kernel
set_option maxRecDepth 65536 in
theorem w_hears : about1.hears theMethod below0 = true := by decide +kernel
set_option maxRecDepth 65536 in
theorem w_ripe : about1.ripe theMethod args0 below0 = true := by decide +kernel
theorem w_running : about1.status = .running := rfl
set_option maxRecDepth 65536 in
theorem w_room : about1.hasRoom e0.platform room_1 = true :=
  launch0.hasRoom_least _ room_1 (by decide +kernel) (by decide +kernel) (by decide +kernel) (by decide +kernel) (by decide +kernel) (by decide +kernel)
theorem allAtoms_all (ts : List Jvm.Cond) (a : Array Jvm.Value) (st : Jvm.State) : (allAtoms ts).before a st = ts.all (fun c => c.before a st) := by
  induction ts with
  | nil => rfl
  | cons c t ih =>
    show (Jvm.Cond.and c (allAtoms t)).before a st = _
    rw [Jvm.Cond.before_and, ih, List.all_cons]
def words1 : List Jvm.Cond := Jvm.Cond.code x code maxLocals ret :: tables_1
/-- a 'code' word, met by the world's own term for the bytes: nothing is compared byte by byte -/
theorem code_word {y : MethodName} {bytes : ByteArray} {mx : Nat} {rt : Option FieldType} {a : Array Value} {s : State} {m : MethodId} {meth : Method} {c : Code} (h1 : s.methodNamed? y = some m) (h2 : s.vm.method? m = some meth) (h3 : meth.code = some c) (h4 : c.code = bytes)
    (h5 : (c.maxLocals == mx && c.exceptionTable.isEmpty && decide (c.maxStack ≤ mostOperands) && decide (meth.sig.returnType = rt) && !meth.locks && decide (parseMethodDescriptor y.desc = some meth.sig)) = true) : (Jvm.Cond.code y bytes mx rt).before a s = true := by
  simp only [Bool.and_eq_true, beq_iff_eq, Bool.not_eq_true', decide_eq_true_eq] at h5
  obtain ⟨⟨⟨⟨⟨g1, g2⟩, g3⟩, g4⟩, g5⟩, g6⟩ := h5
  simp [Cond.before, Cond.holds, Cond.value, h1, h2, h3, h4, g1, g2, g3, g4, g5, g6]
def isCode : Jvm.Cond → Bool
  | .code _ _ _ _ => true
  | _ => false
theorem all_split {L : List Jvm.Cond} {P : Jvm.Cond → Bool} (h1 : L.all (fun c => isCode c || P c) = true) (h2 : ∀ c ∈ L.filter isCode, P c = true) : L.all P = true := by
  refine List.all_eq_true.mpr fun c hc => ?_
  have h := List.all_eq_true.mp h1 c hc
  rcases Bool.eq_false_or_eq_true (isCode c) with hi | hi
  · exact h2 c (List.mem_filter.mpr ⟨hc, hi⟩)
  · simpa [hi] using h
set_option maxRecDepth 65536 in
theorem w_c0 : (Jvm.Cond.code x code maxLocals ret).before args0 about1 = true := code_word (m := ⟨1, 3⟩) (meth := k1m3) (c := k1c3) (by decide +kernel) rfl rfl rfl (by decide +kernel)
set_option maxRecDepth 65536 in
theorem w_c1 : (Jvm.Cond.code ({ cls := "com/example/lease/lease/service/SizesCheckCharactersPinLaw", name := "make", desc := "([CI)Ljava/lang/String;" } : Jvm.MethodName) method_3_code (2 : Nat) (Option.some (Jvm.ClassFile.FieldType.object "java/lang/String"))).before args0 about1 = true := code_word (m := ⟨1, 2⟩) (meth := k1m2) (c := k1c2) (by decide +kernel) rfl rfl rfl (by decide +kernel)
set_option maxRecDepth 65536 in
theorem w_c2 : (Jvm.Cond.code ({ cls := "java/lang/String", name := "<init>", desc := "([C)V" } : Jvm.MethodName) jdk_42_method_3_code (2 : Nat) (Option.none : Option Jvm.ClassFile.FieldType)).before args0 about1 = true := code_word (m := ⟨7, 1⟩) (meth := k7m1) (c := k7c1) (by decide +kernel) rfl rfl rfl (by decide +kernel)
set_option maxRecDepth 65536 in
theorem w_c3 : (Jvm.Cond.code ({ cls := "java/lang/String", name := "<init>", desc := "([CIILjava/lang/Void;)V" } : Jvm.MethodName) jdk_42_method_149_code (6 : Nat) (Option.none : Option Jvm.ClassFile.FieldType)).before args0 about1 = true := code_word (m := ⟨7, 4⟩) (meth := k7m4) (c := k7c4) (by decide +kernel) rfl rfl rfl (by decide +kernel)
set_option maxRecDepth 65536 in
theorem w_c4 : (Jvm.Cond.code ({ cls := "java/lang/Object", name := "<init>", desc := "()V" } : Jvm.MethodName) object_method_1_code (1 : Nat) (Option.none : Option Jvm.ClassFile.FieldType)).before args0 about1 = true := code_word (m := ⟨0, 0⟩) (meth := k0m0) (c := k0c0) (by decide +kernel) rfl rfl rfl (by decide +kernel)
set_option maxRecDepth 65536 in
theorem w_c5 : (Jvm.Cond.code ({ cls := "java/lang/Math", name := "max", desc := "(II)I" } : Jvm.MethodName) jdk_29_method_65_code (2 : Nat) (Option.some Jvm.ClassFile.FieldType.int)).before args0 about1 = true := code_word (m := ⟨8, 1⟩) (meth := k8m1) (c := k8c1) (by decide +kernel) rfl rfl rfl (by decide +kernel)
set_option maxRecDepth 65536 in
theorem w_c6 : (Jvm.Cond.code ({ cls := "com/example/lease/lease/service/Sizes", name := "checkCharacters", desc := "(Ljava/lang/String;Ljava/lang/String;I)V" } : Jvm.MethodName) prog_41_method_2_code (3 : Nat) (Option.none : Option Jvm.ClassFile.FieldType)).before args0 about1 = true := code_word (m := ⟨9, 1⟩) (meth := k9m1) (c := k9c1) (by decide +kernel) rfl rfl rfl (by decide +kernel)
set_option maxRecDepth 65536 in
theorem w_c7 : (Jvm.Cond.code ({ cls := "java/lang/String", name := "length", desc := "()I" } : Jvm.MethodName) jdk_42_method_54_code (1 : Nat) (Option.some Jvm.ClassFile.FieldType.int)).before args0 about1 = true := code_word (m := ⟨7, 2⟩) (meth := k7m2) (c := k7c2) (by decide +kernel) rfl rfl rfl (by decide +kernel)
set_option maxRecDepth 65536 in
theorem w_c8 : (Jvm.Cond.code ({ cls := "java/lang/String", name := "coder", desc := "()B" } : Jvm.MethodName) jdk_42_method_152_code (1 : Nat) (Option.some Jvm.ClassFile.FieldType.byte)).before args0 about1 = true := code_word (m := ⟨7, 5⟩) (meth := k7m5) (c := k7c5) (by decide +kernel) rfl rfl rfl (by decide +kernel)
set_option maxRecDepth 65536 in
theorem w_c9 : (Jvm.Cond.code ({ cls := "java/lang/String", name := "codePointCount", desc := "(II)I" } : Jvm.MethodName) jdk_42_method_59_code (3 : Nat) (Option.some Jvm.ClassFile.FieldType.int)).before args0 about1 = true := code_word (m := ⟨7, 3⟩) (meth := k7m3) (c := k7c3) (by decide +kernel) rfl rfl rfl (by decide +kernel)
set_option maxRecDepth 65536 in
theorem w_c10 : (Jvm.Cond.code ({ cls := "java/util/Objects", name := "checkFromToIndex", desc := "(III)I" } : Jvm.MethodName) jdk_31_method_18_code (3 : Nat) (Option.some Jvm.ClassFile.FieldType.int)).before args0 about1 = true := code_word (m := ⟨10, 1⟩) (meth := k10m1) (c := k10c1) (by decide +kernel) rfl rfl rfl (by decide +kernel)
set_option maxRecDepth 65536 in
theorem w_c11 : (Jvm.Cond.code ({ cls := "jdk/internal/util/Preconditions", name := "checkFromToIndex", desc := "(IIILjava/util/function/BiFunction;)I" } : Jvm.MethodName) jdk_41_method_12_code (4 : Nat) (Option.some Jvm.ClassFile.FieldType.int)).before args0 about1 = true := code_word (m := ⟨11, 1⟩) (meth := k11m1) (c := k11c1) (by decide +kernel) rfl rfl rfl (by decide +kernel)
set_option maxRecDepth 65536 in
theorem w_c12 : (Jvm.Cond.code ({ cls := "java/lang/String", name := "isLatin1", desc := "()Z" } : Jvm.MethodName) jdk_42_method_154_code (1 : Nat) (Option.some Jvm.ClassFile.FieldType.boolean)).before args0 about1 = true := code_word (m := ⟨7, 6⟩) (meth := k7m6) (c := k7c6) (by decide +kernel) rfl rfl rfl (by decide +kernel)
set_option maxRecDepth 65536 in
theorem w_c13 : (Jvm.Cond.code ({ cls := "com/example/lease/lease/service/SizesCheckCharactersPinLaw", name := "put", desc := "([CIII)I" } : Jvm.MethodName) method_2_code (5 : Nat) (Option.some Jvm.ClassFile.FieldType.int)).before args0 about1 = true := code_word (m := ⟨1, 1⟩) (meth := k1m1) (c := k1c1) (by decide +kernel) rfl rfl rfl (by decide +kernel)
set_option maxRecDepth 65536 in
theorem w_c14 : (Jvm.Cond.code ({ cls := "java/lang/StringUTF16", name := "compress", desc := "([CII)[B" } : Jvm.MethodName) jdk_52_method_16_code (6 : Nat) (Option.some (Jvm.ClassFile.FieldType.array Jvm.ClassFile.FieldType.byte))).before args0 about1 = true := code_word (m := ⟨12, 9⟩) (meth := k12m9) (c := k12c9) (by decide +kernel) rfl rfl rfl (by decide +kernel)
set_option maxRecDepth 65536 in
theorem w_c15 : (Jvm.Cond.code ({ cls := "java/lang/StringUTF16", name := "compress", desc := "([CI[BII)I" } : Jvm.MethodName) jdk_52_method_21_code (7 : Nat) (Option.some Jvm.ClassFile.FieldType.int)).before args0 about1 = true := code_word (m := ⟨12, 10⟩) (meth := k12m10) (c := k12c10) (by decide +kernel) rfl rfl rfl (by decide +kernel)
set_option maxRecDepth 65536 in
theorem w_c16 : (Jvm.Cond.code ({ cls := "java/lang/StringUTF16", name := "coderFromArrayLen", desc := "([BI)B" } : Jvm.MethodName) jdk_52_method_15_code (2 : Nat) (Option.some Jvm.ClassFile.FieldType.byte)).before args0 about1 = true := code_word (m := ⟨12, 8⟩) (meth := k12m8) (c := k12c8) (by decide +kernel) rfl rfl rfl (by decide +kernel)
set_option maxRecDepth 65536 in
theorem w_c17 : (Jvm.Cond.code ({ cls := "java/lang/StringUTF16", name := "toBytes", desc := "([CII)[B" } : Jvm.MethodName) jdk_52_method_14_code (5 : Nat) (Option.some (Jvm.ClassFile.FieldType.array Jvm.ClassFile.FieldType.byte))).before args0 about1 = true := code_word (m := ⟨12, 7⟩) (meth := k12m7) (c := k12c7) (by decide +kernel) rfl rfl rfl (by decide +kernel)
set_option maxRecDepth 65536 in
theorem w_c18 : (Jvm.Cond.code ({ cls := "java/lang/StringUTF16", name := "newBytesFor", desc := "(I)[B" } : Jvm.MethodName) jdk_52_method_2_code (1 : Nat) (Option.some (Jvm.ClassFile.FieldType.array Jvm.ClassFile.FieldType.byte))).before args0 about1 = true := code_word (m := ⟨12, 1⟩) (meth := k12m1) (c := k12c1) (by decide +kernel) rfl rfl rfl (by decide +kernel)
set_option maxRecDepth 65536 in
theorem w_c19 : (Jvm.Cond.code ({ cls := "java/lang/StringUTF16", name := "newBytesLength", desc := "(I)I" } : Jvm.MethodName) jdk_52_method_3_code (1 : Nat) (Option.some Jvm.ClassFile.FieldType.int)).before args0 about1 = true := code_word (m := ⟨12, 2⟩) (meth := k12m2) (c := k12c2) (by decide +kernel) rfl rfl rfl (by decide +kernel)
set_option maxRecDepth 65536 in
theorem w_c20 : (Jvm.Cond.code ({ cls := "java/lang/StringUTF16", name := "putChar", desc := "([BII)V" } : Jvm.MethodName) jdk_52_method_4_code (3 : Nat) (Option.none : Option Jvm.ClassFile.FieldType)).before args0 about1 = true := code_word (m := ⟨12, 3⟩) (meth := k12m3) (c := k12c3) (by decide +kernel) rfl rfl rfl (by decide +kernel)
set_option maxRecDepth 65536 in
theorem w_c21 : (Jvm.Cond.code ({ cls := "java/lang/StringUTF16", name := "getChar", desc := "([BI)C" } : Jvm.MethodName) jdk_52_method_5_code (2 : Nat) (Option.some Jvm.ClassFile.FieldType.char)).before args0 about1 = true := code_word (m := ⟨12, 4⟩) (meth := k12m4) (c := k12c4) (by decide +kernel) rfl rfl rfl (by decide +kernel)
set_option maxRecDepth 65536 in
theorem w_c22 : (Jvm.Cond.code ({ cls := "java/lang/StringUTF16", name := "codePointCount", desc := "([BII)I" } : Jvm.MethodName) jdk_52_method_12_code (3 : Nat) (Option.some Jvm.ClassFile.FieldType.int)).before args0 about1 = true := code_word (m := ⟨12, 6⟩) (meth := k12m6) (c := k12c6) (by decide +kernel) rfl rfl rfl (by decide +kernel)
set_option maxRecDepth 65536 in
theorem w_c23 : (Jvm.Cond.code ({ cls := "java/lang/StringUTF16", name := "codePointCount", desc := "([BIIZ)I" } : Jvm.MethodName) jdk_52_method_11_code (6 : Nat) (Option.some Jvm.ClassFile.FieldType.int)).before args0 about1 = true := code_word (m := ⟨12, 5⟩) (meth := k12m5) (c := k12c5) (by decide +kernel) rfl rfl rfl (by decide +kernel)
set_option maxRecDepth 65536 in
theorem w_c24 : (Jvm.Cond.code ({ cls := "java/lang/Character", name := "isHighSurrogate", desc := "(C)Z" } : Jvm.MethodName) jdk_89_method_14_code (1 : Nat) (Option.some Jvm.ClassFile.FieldType.boolean)).before args0 about1 = true := code_word (m := ⟨13, 0⟩) (meth := k13m0) (c := k13c0) (by decide +kernel) rfl rfl rfl (by decide +kernel)
set_option maxRecDepth 65536 in
theorem w_c25 : (Jvm.Cond.code ({ cls := "java/lang/Character", name := "isLowSurrogate", desc := "(C)Z" } : Jvm.MethodName) jdk_89_method_15_code (1 : Nat) (Option.some Jvm.ClassFile.FieldType.boolean)).before args0 about1 = true := code_word (m := ⟨13, 1⟩) (meth := k13m1) (c := k13c1) (by decide +kernel) rfl rfl rfl (by decide +kernel)
def codes1 : List Jvm.Cond := [Jvm.Cond.code x code maxLocals ret, Jvm.Cond.code ({ cls := "com/example/lease/lease/service/SizesCheckCharactersPinLaw", name := "make", desc := "([CI)Ljava/lang/String;" } : Jvm.MethodName) method_3_code (2 : Nat) (Option.some (Jvm.ClassFile.FieldType.object "java/lang/String")), Jvm.Cond.code ({ cls := "java/lang/String", name := "<init>", desc := "([C)V" } : Jvm.MethodName) jdk_42_method_3_code (2 : Nat) (Option.none : Option Jvm.ClassFile.FieldType), Jvm.Cond.code ({ cls := "java/lang/String", name := "<init>", desc := "([CIILjava/lang/Void;)V" } : Jvm.MethodName) jdk_42_method_149_code (6 : Nat) (Option.none : Option Jvm.ClassFile.FieldType), Jvm.Cond.code ({ cls := "java/lang/Object", name := "<init>", desc := "()V" } : Jvm.MethodName) object_method_1_code (1 : Nat) (Option.none : Option Jvm.ClassFile.FieldType), Jvm.Cond.code ({ cls := "java/lang/Math", name := "max", desc := "(II)I" } : Jvm.MethodName) jdk_29_method_65_code (2 : Nat) (Option.some Jvm.ClassFile.FieldType.int), Jvm.Cond.code ({ cls := "com/example/lease/lease/service/Sizes", name := "checkCharacters", desc := "(Ljava/lang/String;Ljava/lang/String;I)V" } : Jvm.MethodName) prog_41_method_2_code (3 : Nat) (Option.none : Option Jvm.ClassFile.FieldType), Jvm.Cond.code ({ cls := "java/lang/String", name := "length", desc := "()I" } : Jvm.MethodName) jdk_42_method_54_code (1 : Nat) (Option.some Jvm.ClassFile.FieldType.int), Jvm.Cond.code ({ cls := "java/lang/String", name := "coder", desc := "()B" } : Jvm.MethodName) jdk_42_method_152_code (1 : Nat) (Option.some Jvm.ClassFile.FieldType.byte), Jvm.Cond.code ({ cls := "java/lang/String", name := "codePointCount", desc := "(II)I" } : Jvm.MethodName) jdk_42_method_59_code (3 : Nat) (Option.some Jvm.ClassFile.FieldType.int), Jvm.Cond.code ({ cls := "java/util/Objects", name := "checkFromToIndex", desc := "(III)I" } : Jvm.MethodName) jdk_31_method_18_code (3 : Nat) (Option.some Jvm.ClassFile.FieldType.int), Jvm.Cond.code ({ cls := "jdk/internal/util/Preconditions", name := "checkFromToIndex", desc := "(IIILjava/util/function/BiFunction;)I" } : Jvm.MethodName) jdk_41_method_12_code (4 : Nat) (Option.some Jvm.ClassFile.FieldType.int), Jvm.Cond.code ({ cls := "java/lang/String", name := "isLatin1", desc := "()Z" } : Jvm.MethodName) jdk_42_method_154_code (1 : Nat) (Option.some Jvm.ClassFile.FieldType.boolean), Jvm.Cond.code ({ cls := "com/example/lease/lease/service/SizesCheckCharactersPinLaw", name := "put", desc := "([CIII)I" } : Jvm.MethodName) method_2_code (5 : Nat) (Option.some Jvm.ClassFile.FieldType.int), Jvm.Cond.code ({ cls := "java/lang/StringUTF16", name := "compress", desc := "([CII)[B" } : Jvm.MethodName) jdk_52_method_16_code (6 : Nat) (Option.some (Jvm.ClassFile.FieldType.array Jvm.ClassFile.FieldType.byte)), Jvm.Cond.code ({ cls := "java/lang/StringUTF16", name := "compress", desc := "([CI[BII)I" } : Jvm.MethodName) jdk_52_method_21_code (7 : Nat) (Option.some Jvm.ClassFile.FieldType.int), Jvm.Cond.code ({ cls := "java/lang/StringUTF16", name := "coderFromArrayLen", desc := "([BI)B" } : Jvm.MethodName) jdk_52_method_15_code (2 : Nat) (Option.some Jvm.ClassFile.FieldType.byte), Jvm.Cond.code ({ cls := "java/lang/StringUTF16", name := "toBytes", desc := "([CII)[B" } : Jvm.MethodName) jdk_52_method_14_code (5 : Nat) (Option.some (Jvm.ClassFile.FieldType.array Jvm.ClassFile.FieldType.byte)), Jvm.Cond.code ({ cls := "java/lang/StringUTF16", name := "newBytesFor", desc := "(I)[B" } : Jvm.MethodName) jdk_52_method_2_code (1 : Nat) (Option.some (Jvm.ClassFile.FieldType.array Jvm.ClassFile.FieldType.byte)), Jvm.Cond.code ({ cls := "java/lang/StringUTF16", name := "newBytesLength", desc := "(I)I" } : Jvm.MethodName) jdk_52_method_3_code (1 : Nat) (Option.some Jvm.ClassFile.FieldType.int), Jvm.Cond.code ({ cls := "java/lang/StringUTF16", name := "putChar", desc := "([BII)V" } : Jvm.MethodName) jdk_52_method_4_code (3 : Nat) (Option.none : Option Jvm.ClassFile.FieldType), Jvm.Cond.code ({ cls := "java/lang/StringUTF16", name := "getChar", desc := "([BI)C" } : Jvm.MethodName) jdk_52_method_5_code (2 : Nat) (Option.some Jvm.ClassFile.FieldType.char), Jvm.Cond.code ({ cls := "java/lang/StringUTF16", name := "codePointCount", desc := "([BII)I" } : Jvm.MethodName) jdk_52_method_12_code (3 : Nat) (Option.some Jvm.ClassFile.FieldType.int), Jvm.Cond.code ({ cls := "java/lang/StringUTF16", name := "codePointCount", desc := "([BIIZ)I" } : Jvm.MethodName) jdk_52_method_11_code (6 : Nat) (Option.some Jvm.ClassFile.FieldType.int), Jvm.Cond.code ({ cls := "java/lang/Character", name := "isHighSurrogate", desc := "(C)Z" } : Jvm.MethodName) jdk_89_method_14_code (1 : Nat) (Option.some Jvm.ClassFile.FieldType.boolean), Jvm.Cond.code ({ cls := "java/lang/Character", name := "isLowSurrogate", desc := "(C)Z" } : Jvm.MethodName) jdk_89_method_15_code (1 : Nat) (Option.some Jvm.ClassFile.FieldType.boolean)]
set_option maxRecDepth 65536 in
theorem codes_eq : words1.filter isCode = codes1 := rfl
theorem w_codes : ∀ c ∈ words1.filter isCode, c.before args0 about1 = true := by
  rw [codes_eq]
  intro c hc
  simp only [codes1, List.mem_cons, List.not_mem_nil, or_false] at hc
  rcases hc with rfl | rfl | rfl | rfl | rfl | rfl | rfl | rfl | rfl | rfl | rfl | rfl | rfl | rfl | rfl | rfl | rfl | rfl | rfl | rfl | rfl | rfl | rfl | rfl | rfl | rfl
  · exact w_c0
  · exact w_c1
  · exact w_c2
  · exact w_c3
  · exact w_c4
  · exact w_c5
  · exact w_c6
  · exact w_c7
  · exact w_c8
  · exact w_c9
  · exact w_c10
  · exact w_c11
  · exact w_c12
  · exact w_c13
  · exact w_c14
  · exact w_c15
  · exact w_c16
  · exact w_c17
  · exact w_c18
  · exact w_c19
  · exact w_c20
  · exact w_c21
  · exact w_c22
  · exact w_c23
  · exact w_c24
  · exact w_c25
set_option maxRecDepth 65536 in
theorem w_t1 : (words1.take 24).all (fun c => isCode c || c.before args0 about1) = true := by decide +kernel
set_option maxRecDepth 65536 in
theorem w_t2 : ((words1.drop 24).take 24).all (fun c => isCode c || c.before args0 about1) = true := by decide +kernel
set_option maxRecDepth 65536 in
theorem w_t3 : (((words1.drop 24).drop 24).take 24).all (fun c => isCode c || c.before args0 about1) = true := by decide +kernel
set_option maxRecDepth 65536 in
theorem w_t4 : ((((words1.drop 24).drop 24).drop 24).take 24).all (fun c => isCode c || c.before args0 about1) = true := by decide +kernel
set_option maxRecDepth 65536 in
theorem w_t5 : ((((words1.drop 24).drop 24).drop 24).drop 24).all (fun c => isCode c || c.before args0 about1) = true := by decide +kernel
theorem w_tables : (allAtoms (Jvm.Cond.code x code maxLocals ret :: tables_1)).before args0 about1 = true := by
  rw [allAtoms_all]
  show words1.all (fun c => c.before args0 about1) = true
  refine all_split ?_ w_codes
  rw [← List.take_append_drop 24 words1, List.all_append, w_t1, ← List.take_append_drop 24 (words1.drop 24), List.all_append, w_t2, ← List.take_append_drop 24 ((words1.drop 24).drop 24), List.all_append, w_t3, ← List.take_append_drop 24 (((words1.drop 24).drop 24).drop 24), List.all_append, w_t4, w_t5]
  rfl
set_option maxRecDepth 65536 in
theorem w_rest : rest_1_c.before args0 about1 = true := by decide +kernel
set_option maxRecDepth 65536 in
theorem w_case : (Jvm.Cond.and given_1 narrow_1).before args0 about1 = true := by decide +kernel
set_option maxRecDepth 65536 in
theorem w_consts : constsHeld consts_1 about1 := Jvm.Lit.constsHeldB_iff.mp (by decide +kernel)
theorem w_applies : (headSpec (Jvm.Cond.code x code maxLocals ret :: tables_1) room_1).applies x e0.platform about1 = true :=
  (Spec.applies_iff w_frames).mpr ⟨w_running, w_runnable, w_alone, w_named, w_hears, w_ripe, w_room, w_tables⟩
theorem atStart : AtStart classFile x code maxLocals ret World_1 tables_1 room_1 Calls_1 rest_1 Pre_1 launch0 p0 e0 about1 theMethod args0 below0 :=
  ⟨lists_1, trivial, launch0.admits_env _ _ _, launch0.least_env, fairChoices_fair.cas, fairChoices_fair.clock, w_frames, w_args, w_heap, w_applies, ⟨w_consts, trivial⟩, w_rest, w_case⟩
end start1
theorem witness_1 : WitnessClaimed_1 := ⟨start1.p0, start1.e0, start1.about1, start1.theMethod, start1.args0, start1.below0, start1.atStart⟩
end Jvm.Pilot.@@N@@
