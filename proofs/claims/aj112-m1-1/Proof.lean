import JvmDerived
import JvmDerived.Pilot.@@N@@Statement
import JvmDerived.Pilot.@@N@@Code
set_option linter.unusedVariables false
set_option linter.unusedSimpArgs false
namespace Jvm.Pilot.@@N@@
open Jvm Jvm.ClassFile Sem Op Lib Jvm.Free Jvm.Stand Jvm.LawKit Jvm.RoadKit Bundle Jvm.Pilot.@@N@@.Jvm.D
section Own
variable {p : Program} {l : Launch} {e : Env} {R : Room} {s : State} {m : MethodId} {args : Array Value} {below : List Frame} {meth : Method} {c : Code} {T : State} {locs : List Loc} {cells slots : Nat} {Z : State} {a0 : Array Value} {K : State → Outcome → Prop} {pc pc' : Nat} {Ls : Array Slot} {st : List Value} {h : Heap}
/-- from here the run ends, and what is left is as K says -/
def own_Go (p : Program) (e : Env) (below : List Frame) (K : State → Outcome → Prop) (T : State) (f : JFrame) : Prop :=
  ∃ s₂ o, Steps p.tables e below (T.setTop f) s₂ ∧ s₂.status = .running ∧ Ended s₂ below o ∧ K s₂ o
def own_K (Q : Option Value → Heap → List Loc → Prop) (s : State) (cs ss : Nat) : State → Outcome → Prop := fun u o => ∃ v L, o = .returned v ∧ Q v u.heap L ∧ FrameEnd s o u L cs ss
theorem own_go {T' : State} {f f' : JFrame} (h : ∀ t, Steps p.tables e below (T'.setTop f') t → Steps p.tables e below (T.setTop f) t) (k : own_Go p e below K T' f') : own_Go p e below K T f := by
  obtain ⟨a, b, c, d⟩ := k
  exact ⟨a, b, h _ c, d⟩
theorem own_w {tb : List Jvm.Cond} (hw : ∀ d ∈ tb, d.before a0 Z = true) {d : Jvm.Cond} (k : Nat) (h : tb[k]? = some d) : d.before a0 Z = true := hw _ (List.mem_of_getElem? h)
/-- a method's contract: called with these arguments over this heap it returns, and Q says what it leaves -/
abbrev own_Met (l : Launch) (Z : State) (y : MethodName) (bytes : ByteArray) (mx : Nat) (rt : Option FieldType) (ws : List Jvm.Cond) (rm : Room) (as : Array Value) (h0 : Heap) (Q : Option Value → Heap → List Loc → Prop) : Prop :=
  MetFree l y (head1 (Jvm.Cond.code y bytes mx rt :: ws) rm) (fun a U => a = as ∧ Z.Warmed39 U.vm ∧ U.heap = h0) (fun _ _ _ _ _ => True) (fun _ U o U' => ∃ v L, o = .returned v ∧ Q v U'.heap L ∧ FrameEnd U o U' L rm.cells rm.slots)
theorem own_body {y : MethodName} {bytes : ByteArray} {mx : Nat} {rt : Option FieldType} {ws : List Jvm.Cond} {rm : Room} {as : Array Value} {h0 : Heap} {Q : Option Value → Heap → List Loc → Prop} (hp : plainFor y = true)
    (body : ∀ (p : Program) (e : Env) (s : State) (m : MethodId) (below : List Frame) (meth : Method) (c : Code) (T : State), Stand p l e rm s m as below meth c T [] 0 0 → p.tables.exec = Jvm.exec → c.code = bytes → c.maxLocals = mx → meth.sig.returnType = rt → meth.locks = false → Z.Warmed39 s.vm → s.vm.findClass y.cls = some m.cls → meth.name = y.name → T.heap = h0 →
      own_Go p e below (own_K Q s rm.cells rm.slots) T (entryFrame m as mx)) : own_Met l Z y bytes mx rt ws rm as h0 Q := by
  refine MetFree.of_bodySF hp hisR ?_
  intro p e s m args below meth c s₁ Bd hml0 hP hK
  obtain ⟨rfl, hZ, hh⟩ := hP
  exact body p e s m below meth c s₁ (Stand.of_body Bd) Bd.exec Bd.bytes hml0 Bd.returns Bd.notSynchronized hZ (findClass_of_methodNamed Bd.named) (name_of_methodNamed Bd.named Bd.method).1 (by rw [← hh, Bd.state]; rfl)
theorem own_ret (X : Stand p l e R s m args below meth c T locs cells slots) (hx : p.tables.exec = Jvm.exec) {Q : Option Value → Heap → List Loc → Prop} {cs ss : Nat} {w : Value} {t : FieldType} {i : Instr} {rest : List Value} (hlk : meth.locks = false) (hret : meth.sig.returnType = some t) (hd : decode c.code pc = .ok (i, 1)) (hn : narrow t w = w)
    (hi : (i = .ireturn ∧ (t = .int ∨ t = .boolean ∨ t = .byte ∨ t = .char ∨ t = .short) ∧ ∃ z, w = .int z) ∨ (i = .lreturn ∧ t = .long ∧ ∃ z, w = .long z) ∨ (i = .dreturn ∧ t = .double ∧ ∃ z, w = .double z) ∨ (i = .freturn ∧ t = .float ∧ ∃ z, w = .float z) ∨ (i = .areturn ∧ t.isReference = true ∧ w.isRef = true))
    (hc : cells ≤ cs) (hs : slots ≤ ss) (hq : Q (some w) T.heap locs) : own_Go p e below (own_K Q s cs ss) T (mkF m pc Ls (w :: rest)) := by
  obtain ⟨fs, hr, hrun, hended, hW, hsame⟩ := X.leave (v := some w) (fun h => by rw [hret] at h; cases h) hlk
  exact ⟨_, _, retOut X hx hret hn hi hd hr, hrun, hended, _, _, rfl, hq, ⟨_, rfl⟩, hW, hsame.mono hc hs⟩
theorem own_retI (X : Stand p l e R s m args below meth c T locs cells slots) (hx : p.tables.exec = Jvm.exec) {Q : Option Value → Heap → List Loc → Prop} {cs ss : Nat} {z : Int32} {rest : List Value} (hlk : meth.locks = false) (hret : meth.sig.returnType = some .int) (hd : decode c.code pc = .ok (.ireturn, 1)) (hc : cells ≤ cs) (hs : slots ≤ ss) (hq : Q (some (.int z)) T.heap locs) : own_Go p e below (own_K Q s cs ss) T (mkF m pc Ls (.int z :: rest)) :=
  own_ret X hx hlk hret hd rfl (Or.inl ⟨rfl, Or.inl rfl, z, rfl⟩) hc hs hq
theorem own_retZ (X : Stand p l e R s m args below meth c T locs cells slots) (hx : p.tables.exec = Jvm.exec) {Q : Option Value → Heap → List Loc → Prop} {cs ss : Nat} {z : Int32} {rest : List Value} (hlk : meth.locks = false) (hret : meth.sig.returnType = some .boolean) (hd : decode c.code pc = .ok (.ireturn, 1)) (hn : z = 0 ∨ z = 1) (hc : cells ≤ cs) (hs : slots ≤ ss) (hq : Q (some (.int z)) T.heap locs) : own_Go p e below (own_K Q s cs ss) T (mkF m pc Ls (.int z :: rest)) :=
  own_ret X hx hlk hret hd (by rcases hn with rfl | rfl <;> rfl) (Or.inl ⟨rfl, Or.inr (Or.inl rfl), z, rfl⟩) hc hs hq
theorem own_retJ (X : Stand p l e R s m args below meth c T locs cells slots) (hx : p.tables.exec = Jvm.exec) {Q : Option Value → Heap → List Loc → Prop} {cs ss : Nat} {z : Int64} {rest : List Value} (hlk : meth.locks = false) (hret : meth.sig.returnType = some .long) (hd : decode c.code pc = .ok (.lreturn, 1)) (hc : cells ≤ cs) (hs : slots ≤ ss) (hq : Q (some (.long z)) T.heap locs) : own_Go p e below (own_K Q s cs ss) T (mkF m pc Ls (.long z :: rest)) :=
  own_ret X hx hlk hret hd rfl (Or.inr (Or.inl ⟨rfl, rfl, z, rfl⟩)) hc hs hq
theorem own_retA (X : Stand p l e R s m args below meth c T locs cells slots) (hx : p.tables.exec = Jvm.exec) {Q : Option Value → Heap → List Loc → Prop} {cs ss : Nat} {w : Value} {t : FieldType} {rest : List Value} (hlk : meth.locks = false) (hret : meth.sig.returnType = some t) (hd : decode c.code pc = .ok (.areturn, 1)) (ht : t.isReference = true) (hv : w.isRef = true) (hc : cells ≤ cs) (hs : slots ≤ ss) (hq : Q (some w) T.heap locs) : own_Go p e below (own_K Q s cs ss) T (mkF m pc Ls (w :: rest)) :=
  own_ret X hx hlk hret hd (by rcases ref_cases hv with rfl | ⟨a, rfl⟩ <;> cases t <;> first | rfl | cases ht) (Or.inr (Or.inr (Or.inr (Or.inr ⟨rfl, ht, hv⟩)))) hc hs hq
theorem own_retV (X : Stand p l e R s m args below meth c T locs cells slots) (hx : p.tables.exec = Jvm.exec) {Q : Option Value → Heap → List Loc → Prop} {cs ss : Nat} (hlk : meth.locks = false) (hret : meth.sig.returnType = none) (hd : decode c.code pc = .ok (.return_, 1)) (hc : cells ≤ cs) (hs : slots ≤ ss) (hq : Q none T.heap locs) : own_Go p e below (own_K Q s cs ss) T (mkF m pc Ls []) := by
  obtain ⟨fs, hr, hrun, hended, hW, hsame⟩ := X.leave (v := none) (fun _ => rfl) hlk
  exact ⟨_, _, X.returnOut hx hret hd hr, hrun, hended, _, _, rfl, hq, ⟨_, rfl⟩, hW, hsame.mono hc hs⟩
/-- the two roads of a conditional branch -/
theorem own_if (X : Stand p l e R s m args below meth c T locs cells slots) (hx : p.tables.exec = Jvm.exec) {cd : ClassFile.Cond} {o : Int} {z : Int32} {rest : List Value} (hd : decode c.code pc = .ok (.ifCond cd o, 3)) (ho : 0 ≤ (pc : Int) + o) (hp : ((pc : Int) + o).toNat = pc') {pc1 : Nat} (hp1 : pc + 3 = pc1) (P : Prop) (h1 : P → ifCond.holds cd z = true) (h2 : ¬ P → ifCond.holds cd z = false)
    (kt : P → own_Go p e below K T (mkF m pc' Ls rest)) (kf : ¬ P → own_Go p e below K T (mkF m pc1 Ls rest)) : own_Go p e below K T (mkF m pc Ls (.int z :: rest)) := by
  subst hp1
  by_cases q : P
  · exact own_go (fun t k => XS.ifYes X.here hx (g := mkF m pc Ls (.int z :: rest)) rfl (pc0 := pc) (pc' := pc') rfl hd rfl (h1 q) ho hp k) (kt q)
  · exact own_go (fun t k => XS.ifNo X.here hx (g := mkF m pc Ls (.int z :: rest)) rfl hd rfl (h2 q) k) (kf q)
theorem own_icmp (X : Stand p l e R s m args below meth c T locs cells slots) (hx : p.tables.exec = Jvm.exec) {cd : ClassFile.Cond} {o : Int} {y z : Int32} {rest : List Value} (hd : decode c.code pc = .ok (.if_icmp cd o, 3)) (ho : 0 ≤ (pc : Int) + o) (hp : ((pc : Int) + o).toNat = pc') {pc1 : Nat} (hp1 : pc + 3 = pc1) (P : Prop) (h1 : P → if_icmp.holds cd y z = true) (h2 : ¬ P → if_icmp.holds cd y z = false)
    (kt : P → own_Go p e below K T (mkF m pc' Ls rest)) (kf : ¬ P → own_Go p e below K T (mkF m pc1 Ls rest)) : own_Go p e below K T (mkF m pc Ls (.int z :: .int y :: rest)) := by
  subst hp1
  by_cases q : P
  · exact own_go (fun t k => XS.icmpYes X.here hx (g := mkF m pc Ls (.int z :: .int y :: rest)) rfl (pc0 := pc) (pc' := pc') rfl hd rfl (h1 q) ho hp k) (kt q)
  · exact own_go (fun t k => XS.icmpNo X.here hx (g := mkF m pc Ls (.int z :: .int y :: rest)) rfl hd rfl (h2 q) k) (kf q)
theorem own_callS (X : Stand p l e R s m args below meth c T locs cells slots) (hx : p.tables.exec = Jvm.exec) (hZ : Z.Warmed39 s.vm) {own : String} {index : Nat} {y : MethodName} {bytes : ByteArray} {mx : Nat} {rt : Option FieldType} {rm : Room} {argsL rest : List Value} {Q : Option Value → Heap → List Loc → Prop}
    (hown : s.vm.findClass own = some m.cls) (w1 : (Jvm.Cond.methodLink own index y).before a0 Z = true) (w2 : (Jvm.Cond.static y).before a0 Z = true) (w3 : (Jvm.Cond.initialized y.cls).before a0 Z = true) (w4 : (Jvm.Cond.code y bytes mx rt).before a0 Z = true) (hy : y.cls ≠ "java/lang/invoke/MethodHandle" ∧ y.cls ≠ "java/lang/invoke/VarHandle")
    (eT : T.heap = h) (hM : own_Met l Z y bytes mx rt [] rm argsL.toArray h Q) (W : Nat) (hf : rm.frames + 1 ≤ R.frames) (hl : W + (mx + 11) + rm.locals ≤ R.locals) (hcl : cells + rm.cells ≤ R.cells) (hsl : slots + rm.slots ≤ R.slots) (hsz : Ls.size = c.maxLocals) (hlen : ∀ sig, parseMethodDescriptor y.desc = some sig → argsL.length = sig.parameters.length)
    (hst : st = argsL.reverse ++ rest) (hW : (rest.map fun v => v.category).sum ≤ W) (hd : decode c.code pc = .ok (.invokestatic index, 3)) :
    ∃ v T' L, Stand p l e R s m args below meth c T' (locs ++ L) (cells + rm.cells) (slots + rm.slots) ∧ Q v T'.heap L ∧ ∀ t, Steps p.tables e below (T'.setTop (mkF m (pc + 3) Ls (v.toList ++ rest))) t → Steps p.tables e below (T.setTop (mkF m pc Ls st)) t := by
  obtain ⟨v, vm1, ⟨T', L', k', n'⟩, -, X', ⟨L, hQ, l1, l2, l3⟩, stp⟩ := Jvm.LawKit.callS X hx (y := y) hown (mvT hZ w1) (mvT hZ w2) (mvT hZ w3) (mvT hZ w4) hy (backOf (W := W) hM hZ w4 w3 hf hl) (g := mkF m pc Ls st) rfl hsz (argsL := argsL) (rest := rest) hlen hst (by show 2 * 0 + _ ≤ _; omega) hd (fun _ _ => ⟨rfl, eT, hcl, hsl⟩)
  dsimp only [Pt.U, Pt.locs, Pt.cells, Pt.slots] at X' l1 l2 l3 stp hQ
  subst l1 l2 l3
  exact ⟨v, T', L, X', hQ, stp⟩
theorem own_callV (X : Stand p l e R s m args below meth c T locs cells slots) (hx : p.tables.exec = Jvm.exec) (hZ : Z.Warmed39 s.vm) {own C : String} {index : Nat} {y z : MethodName} {bytes : ByteArray} {mx : Nat} {rt : Option FieldType} {rm : Room} {b : Addr} {argsL rest : List Value} {Q : Option Value → Heap → List Loc → Prop}
    (hown : s.vm.findClass own = some m.cls) (w1 : (Jvm.Cond.methodLink own index y).before a0 Z = true) (w2 : (Jvm.Cond.declares y).before a0 Z = true) (w3 : (Jvm.Cond.selects C y z).before a0 Z = true) (hnf : NotFace s y) (w4 : (Jvm.Cond.instanceMethod z).before a0 Z = true) (w5 : (Jvm.Cond.code z bytes mx rt).before a0 Z = true) (w6 : (Jvm.Cond.initialized z.cls).before a0 Z = true) (hy : y.cls ≠ "java/lang/invoke/MethodHandle" ∧ y.cls ≠ "java/lang/invoke/VarHandle")
    (eT : T.heap = h) (E : Exa Z h b C) (hM : own_Met l Z z bytes mx rt [] rm (.ref b :: argsL).toArray h Q) (W : Nat) (hf : rm.frames + 1 ≤ R.frames) (hl : W + (mx + 11) + rm.locals ≤ R.locals) (hcl : cells + rm.cells ≤ R.cells) (hsl : slots + rm.slots ≤ R.slots) (hsz : Ls.size = c.maxLocals) (hlen : ∀ sig, parseMethodDescriptor y.desc = some sig → argsL.length = sig.parameters.length)
    (hst : st = argsL.reverse ++ .ref b :: rest) (hW : (rest.map fun v => v.category).sum ≤ W) (hd : decode c.code pc = .ok (.invokevirtual index, 3)) :
    ∃ v T' L, Stand p l e R s m args below meth c T' (locs ++ L) (cells + rm.cells) (slots + rm.slots) ∧ Q v T'.heap L ∧ ∀ t, Steps p.tables e below (T'.setTop (mkF m (pc + 3) Ls (v.toList ++ rest))) t → Steps p.tables e below (T.setTop (mkF m pc Ls st)) t := by
  obtain ⟨cq, kq, q1, q2, q3⟩ := isOf hZ eT E
  obtain ⟨v, vm1, ⟨T', L', k', n'⟩, -, X', ⟨L, hQ, l1, l2, l3⟩, stp⟩ := X.virtualBack hx (y := y) (z := z) hown (mvT hZ w1) (mvT hZ w2) hnf (mvT hZ w3) (mvT hZ w4) hy (backOf (W := W) hM hZ w5 w6 hf hl) q1 q3 (g := mkF m pc Ls st) rfl hsz (Steps.refl _) (argsL := argsL) (rest := rest) hlen hst (by show 2 * 0 + _ ≤ _; omega) hd (fun _ _ => ⟨rfl, eT, hcl, hsl⟩)
  dsimp only [Pt.U, Pt.locs, Pt.cells, Pt.slots] at X' l1 l2 l3 stp hQ
  subst l1 l2 l3
  exact ⟨v, T', L, X', hQ, fun t k => stp.trans k⟩
theorem own_callU (X : Stand p l e R s m args below meth c T locs cells slots) (hx : p.tables.exec = Jvm.exec) (hZ : Z.Warmed39 s.vm) {own C owner : String} {index : Nat} {y z : MethodName} {bytes : ByteArray} {mx : Nat} {rt : Option FieldType} {rm : Room} {b : Addr} {argsL rest : List Value} {Q : Option Value → Heap → List Loc → Prop}
    (hown : s.vm.findClass own = some m.cls) (w1 : (Jvm.Cond.methodLink own index y).before a0 Z = true) (w2 : (Jvm.Cond.sameMethod y.cls owner y.name y.desc).before a0 Z = true) (w2' : (Jvm.Cond.declares ⟨owner, y.name, y.desc⟩).before a0 Z = true) (w3 : (Jvm.Cond.selects C y z).before a0 Z = true) (w4 : (Jvm.Cond.instanceMethod z).before a0 Z = true) (w5 : (Jvm.Cond.code z bytes mx rt).before a0 Z = true) (w6 : (Jvm.Cond.initialized z.cls).before a0 Z = true) (hy : owner ≠ "java/lang/invoke/MethodHandle" ∧ owner ≠ "java/lang/invoke/VarHandle")
    (eT : T.heap = h) (E : Exa Z h b C) (hM : own_Met l Z z bytes mx rt [] rm (.ref b :: argsL).toArray h Q) (W : Nat) (hf : rm.frames + 1 ≤ R.frames) (hl : W + (mx + 11) + rm.locals ≤ R.locals) (hcl : cells + rm.cells ≤ R.cells) (hsl : slots + rm.slots ≤ R.slots) (hsz : Ls.size = c.maxLocals) (hlen : ∀ sig, parseMethodDescriptor y.desc = some sig → argsL.length = sig.parameters.length)
    (hst : st = argsL.reverse ++ .ref b :: rest) (hW : (rest.map fun v => v.category).sum ≤ W) (hd : decode c.code pc = .ok (.invokevirtual index, 3)) :
    ∃ v T' L, Stand p l e R s m args below meth c T' (locs ++ L) (cells + rm.cells) (slots + rm.slots) ∧ Q v T'.heap L ∧ ∀ t, Steps p.tables e below (T'.setTop (mkF m (pc + 3) Ls (v.toList ++ rest))) t → Steps p.tables e below (T.setTop (mkF m pc Ls st)) t := by
  obtain ⟨cq, kq, q1, q2, q3⟩ := isOf hZ eT E
  obtain ⟨v, vm1, ⟨T', L', k', n'⟩, -, X', ⟨L, hQ, l1, l2, l3⟩, stp⟩ := X.virtualBackUp hx (x := y) (y := z) hown (mvT hZ w1) (mvT hZ w2) (mvT hZ w2') hy (mvT hZ w3) (mvT hZ w4) (backOf (W := W) hM hZ w5 w6 hf hl) q1 q3 (g := mkF m pc Ls st) rfl hsz (Steps.refl _) (argsL := argsL) (rest := rest) hlen hst (by show 2 * 0 + _ ≤ _; omega) hd (fun _ _ => ⟨rfl, eT, hcl, hsl⟩)
  dsimp only [Pt.U, Pt.locs, Pt.cells, Pt.slots] at X' l1 l2 l3 stp hQ
  subst l1 l2 l3
  exact ⟨v, T', L, X', hQ, fun t k => stp.trans k⟩
theorem own_callC (X : Stand p l e R s m args below meth c T locs cells slots) (hx : p.tables.exec = Jvm.exec) (hZ : Z.Warmed39 s.vm) {own : String} {index : Nat} {y : MethodName} {bytes : ByteArray} {mx : Nat} {rm : Room} {b : Addr} {argsL rest : List Value} {Q : Option Value → Heap → List Loc → Prop}
    (hy1 : y.name = "<init>") (hown : s.vm.findClass own = some m.cls) (w1 : (Jvm.Cond.methodLink own index y).before a0 Z = true) (w4 : (Jvm.Cond.instanceMethod y).before a0 Z = true) (w5 : (Jvm.Cond.code y bytes mx none).before a0 Z = true) (w6 : (Jvm.Cond.initialized y.cls).before a0 Z = true) (hy : y.cls ≠ "java/lang/invoke/MethodHandle" ∧ y.cls ≠ "java/lang/invoke/VarHandle")
    (eT : T.heap = h) (hM : own_Met l Z y bytes mx none [] rm (.ref b :: argsL).toArray h Q) (W : Nat) (hf : rm.frames + 1 ≤ R.frames) (hl : W + (mx + 11) + rm.locals ≤ R.locals) (hcl : cells + rm.cells ≤ R.cells) (hsl : slots + rm.slots ≤ R.slots) (hsz : Ls.size = c.maxLocals) (hlen : ∀ sig, parseMethodDescriptor y.desc = some sig → argsL.length = sig.parameters.length)
    (hst : st = argsL.reverse ++ .ref b :: rest) (hW : (rest.map fun v => v.category).sum ≤ W) (hd : decode c.code pc = .ok (.invokespecial index, 3)) :
    ∃ v T' L, Stand p l e R s m args below meth c T' (locs ++ L) (cells + rm.cells) (slots + rm.slots) ∧ Q v T'.heap L ∧ ∀ t, Steps p.tables e below (T'.setTop (mkF m (pc + 3) Ls (v.toList ++ rest))) t → Steps p.tables e below (T.setTop (mkF m pc Ls st)) t := by
  obtain ⟨v, vm1, ⟨T', L', k', n'⟩, -, X', ⟨L, hQ, l1, l2, l3⟩, stp⟩ := X.specialBack hx (y := y) hy1 hown (mvT hZ w1) (mvT hZ w4) (mvT hZ w5) hy (backOf (W := W) hM hZ w5 w6 hf hl) (g := mkF m pc Ls st) rfl hsz (Steps.refl _) (a := b) (argsL := argsL) (rest := rest) hlen hst (by show 2 * 0 + _ ≤ _; omega) hd (fun _ _ => ⟨rfl, eT, hcl, hsl⟩)
  dsimp only [Pt.U, Pt.locs, Pt.cells, Pt.slots] at X' l1 l2 l3 stp hQ
  subst l1 l2 l3
  exact ⟨v, T', L, X', hQ, fun t k => stp.trans k⟩
end Own
section OwnStart
variable {Z : State} {args : Array Value} {t u : Term} {a : Addr} {C n d : String}
theorem own_eqI {k : Int32} (h : (Jvm.Cond.eq t (.int k)).value args Z none Z [] = some true) : t.eval args Z none [] Z = some (.int k) := by
  simp only [Cond.value, Term.eval] at h
  cases ht : t.eval args Z none [] Z with
  | none => simp [ht] at h
  | some x => cases x <;> simp [ht] at h ⊢; exact h
theorem own_eqJ {k : Int64} (h : (Jvm.Cond.eq t (.long k)).value args Z none Z [] = some true) : t.eval args Z none [] Z = some (.long k) := by
  simp only [Cond.value, Term.eval] at h
  cases ht : t.eval args Z none [] Z with
  | none => simp [ht] at h
  | some x => cases x <;> simp [ht] at h ⊢; exact h
theorem own_fld {v : Value} (ev : t.eval args Z none [] Z = some (.ref a)) (h : (Term.field t C n d).eval args Z none [] Z = some v) : Fld Z Z.heap a C n d v := Fld.start ((fld_at ev).symm.trans h)
theorem own_eqR {b : Addr} (ha : t.eval args Z none [] Z = some (.ref b)) (h : (Jvm.Cond.eq u t).value args Z none Z [] = some true) : u.eval args Z none [] Z = some (.ref b) := by
  cases hu : u.eval args Z none [] Z with
  | none => simp [Cond.value, hu] at h
  | some x => cases x <;> simp [Cond.value, hu, ha] at h ⊢; exact h
theorem own_lenOf {cl : Cell} {ty : FieldType} {k : Int32} (ev : t.eval args Z none [] Z = some (.ref a)) (A : Arr Z Z.heap a cl ty) (h : (Term.length t).eval args Z none [] Z = some (.int k)) : cl.slots.size < 2 ^ 31 ∧ cl.slots.size.toInt32 = k := by
  have q := A.fin (Vm.Alike.refl _)
  by_cases hl : cl.slots.size < 2 ^ 31
  · rw [len_f ev q hl] at h
    exact ⟨hl, by cases h; rfl⟩
  · simp [Term.eval, ev, q, hl] at h
end OwnStart
section OwnArr
variable {p : Program} {l : Launch} {e : Env} {R : Room} {s : State} {m : MethodId} {args : Array Value} {below : List Frame} {meth : Method} {c : Code} {T : State} {locs : List Loc} {cells slots : Nat} {Z : State} {a0 : Array Value} {K : State → Outcome → Prop} {pc pc' : Nat} {Ls : Array Slot} {rest : List Value} {h : Heap}
theorem own_oldge {n0 : Nat} (O : Old Z n0 h) : n0 ≤ h.size := O.1 ▸ O.2.1
theorem own_newR (X : Stand p l e R s m args below meth c T locs cells slots) (hx : p.tables.exec = Jvm.exec) (hZ : Z.Warmed39 s.vm) {own C : String} {index : Nat} (hown : s.vm.findClass own = some m.cls) (w1 : (Jvm.Cond.classLink own index C).before a0 Z = true) (w2 : (Jvm.Cond.arrayOver (.object C)).before a0 Z = true) (eT : T.heap = h)
    (hd : decode c.code pc = .ok (.anewarray index, 3)) {n : Int32} (hn : ¬ n < 0) (cap : Nat) (hcap : n.toNatClampNeg ≤ cap) (hb : cap * 8 ≤ 536870912) (hc : cells + 1 ≤ R.cells) (hl : slots + cap ≤ R.slots) :
    ∃ T' h' b kA, Stand p l e R s m args below meth c T' locs (cells + 1) (slots + cap) ∧ T'.heap = h' ∧ Ext h h' ∧ b = h.size ∧ Arv Z h' b kA (.object C) n (List.replicate cap .null) .null ∧ Ovr Z kA C ∧ ∀ t, Steps p.tables e below (T'.setTop (mkF m (pc + 3) Ls (.ref b :: rest))) t → Steps p.tables e below (T.setTop (mkF m pc Ls (.int n :: rest))) t := by
  obtain ⟨T', h', kA, X', e', E', A', O', st'⟩ := newR X hx hZ hown w1 w2 eT (g := mkF m pc Ls (.int n :: rest)) rfl hd rfl hn hcap hb hc hl
  exact ⟨T', h', h.size, kA, X', e', E', rfl, (Arv.new A' hn).pad (pad_rep [] _ cap), O', st'⟩
theorem own_stR (X : Stand p l e R s m args below meth c T locs cells slots) (hx : p.tables.exec = Jvm.exec) (hZ : Z.Warmed39 s.vm) (eT : T.heap = h) {b y : Addr} {kA : ClassId} {C : String} {n j : Int32} {vs vs' : List Value} (V : Arv Z h b kA (.object C) n vs .null) (O : Ovr Z kA C) (I : Ins Z h y C true) (hj : ¬ j < 0 ∧ j < n) (i : Nat) (hi : j.toNatClampNeg = i) (hil : i < vs.length) (hvs : vs.set i (.ref y) = vs') {n0 : Nat} (N : Fr n0 locs) (g : n0 ≤ b)
    (hd : decode c.code pc = .ok (.aastore, 1)) :
    ∃ T' h' L', Stand p l e R s m args below meth c T' L' cells slots ∧ Fr n0 L' ∧ T'.heap = h' ∧ Wr h h' b i (.ref y) ∧ Arv Z h' b kA (.object C) n vs' .null ∧ ∀ t, Steps p.tables e below (T'.setTop (mkF m (pc + 1) Ls rest)) t → Steps p.tables e below (T.setTop (mkF m pc Ls (.ref y :: .int j :: .ref b :: rest))) t := by
  obtain ⟨cl, A, q, S, Nn, H, G⟩ := V
  subst hvs
  obtain ⟨T', h', X', e', W', st'⟩ := stR X hx hZ eT A (j := j) (inb_of S hj) rfl (Sto.ofV A q O I) (g := mkF m pc Ls (.ref y :: .int j :: .ref b :: rest)) rfl rfl hd
  refine ⟨T', h', _, X', Fr.snoc X' N g, e', hi ▸ W', Arv.set A q S Nn H G rfl W' i hi hil, st'⟩
theorem own_ldR (X : Stand p l e R s m args below meth c T locs cells slots) (hx : p.tables.exec = Jvm.exec) (hZ : Z.Warmed39 s.vm) (eT : T.heap = h) {b : Addr} {kA : ClassId} {ty : FieldType} {n j : Int32} {vs : List Value} {dv v : Value} (V : Arv Z h b kA ty n vs dv) (hty : ty.isReference = true) (hj : ¬ j < 0 ∧ j < n) (hv : vs.getD j.toNatClampNeg dv = v) (hd : decode c.code pc = .ok (.aaload, 1)) :
    ∀ t, Steps p.tables e below (T.setTop (mkF m (pc + 1) Ls (v :: rest))) t → Steps p.tables e below (T.setTop (mkF m pc Ls (.int j :: .ref b :: rest))) t := by
  obtain ⟨cl, A, q, S, Nn, H, G⟩ := V
  intro t k
  exact X.aaload hx (j := j) (v := v) (by rw [eT]; exact A.1) (State.isArrayOf_alike hZ.alike A.2.1) hty A.2.2 (inb_of S hj) (H.at (inb_of S hj) hv) (g := mkF m pc Ls (.int j :: .ref b :: rest)) rfl rfl hd t k
theorem own_len (X : Stand p l e R s m args below meth c T locs cells slots) (hx : p.tables.exec = Jvm.exec) (hZ : Z.Warmed39 s.vm) (eT : T.heap = h) {b : Addr} {kA : ClassId} {ty : FieldType} {n : Int32} {vs : List Value} {dv : Value} (V : Arv Z h b kA ty n vs dv) (hd : decode c.code pc = .ok (.arraylength, 1)) :
    ∀ t, Steps p.tables e below (T.setTop (mkF m (pc + 1) Ls (.int n :: rest))) t → Steps p.tables e below (T.setTop (mkF m pc Ls (.ref b :: rest))) t := by
  obtain ⟨cl, A, q, S, Nn, H, G⟩ := V
  intro t k
  refine X.arraylength hx (by rw [eT]; exact A.1) (State.isArrayOf_alike hZ.alike A.2.1) (g := mkF m pc Ls (.ref b :: rest)) rfl rfl hd t ?_
  rw [len_of S Nn]
  exact k
end OwnArr
theorem own_maskInt (x : Int32) : 0 ≤ (x &&& (2147483647 : Int32)).toInt := by
  have h : (x &&& (2147483647 : Int32)).toBitVec.msb = false := by
    show (x.toBitVec &&& 2147483647#32).msb = false
    rw [BitVec.msb_and]
    have : (2147483647#32).msb = false := by decide
    rw [this, Bool.and_false]
  have h2 : (x &&& (2147483647 : Int32)).toInt = (x &&& (2147483647 : Int32)).toBitVec.toInt := rfl
  rw [h2, BitVec.toInt_eq_toNat_of_msb h]
  omega
theorem own_rem (x n : Int32) (hn : 0 < n.toInt) : ¬ (x &&& (2147483647 : Int32)) % n < 0 ∧ (x &&& (2147483647 : Int32)) % n < n := by
  have h0 := own_maskInt x
  have e0 : (0 : Int32).toInt = 0 := rfl
  rw [Int32.lt_iff_toInt_lt, Int32.lt_iff_toInt_lt, Int32.toInt_mod, e0]
  have h1 := Int.tmod_nonneg n.toInt h0
  have h2 := Int.tmod_lt_of_pos (x &&& (2147483647 : Int32)).toInt hn
  omega
section OwnPrim
variable {p : Program} {l : Launch} {e : Env} {R : Room} {s : State} {m : MethodId} {args : Array Value} {below : List Frame} {meth : Method} {c : Code} {T : State} {locs : List Loc} {cells slots : Nat} {Z : State} {a0 : Array Value} {K : State → Outcome → Prop} {pc pc' : Nat} {Ls : Array Slot} {rest : List Value} {h : Heap}
theorem own_newP (X : Stand p l e R s m args below meth c T locs cells slots) (hx : p.tables.exec = Jvm.exec) (hZ : Z.Warmed39 s.vm) {aty : ArrayType} {ty : FieldType} (hty : newarray.typeOf aty = ty) (w : (Jvm.Cond.arrayClass ty).before a0 Z = true) (eT : T.heap = h)
    (hd : decode c.code pc = .ok (.newarray aty, 2)) {n : Int32} (hn : ¬ n < 0) (cap : Nat) (hcap : n.toNatClampNeg ≤ cap) (hb : cap * 8 ≤ 536870912) (hc : cells + 1 ≤ R.cells) (hl : slots + cap ≤ R.slots) :
    ∃ T' h' b kA, Stand p l e R s m args below meth c T' locs (cells + 1) (slots + cap) ∧ T'.heap = h' ∧ Ext h h' ∧ b = h.size ∧ Arv Z h' b kA ty n (List.replicate cap (defaultValue ty)) (defaultValue ty) ∧ ∀ t, Steps p.tables e below (T'.setTop (mkF m (pc + 2) Ls (.ref b :: rest))) t → Steps p.tables e below (T.setTop (mkF m pc Ls (.int n :: rest))) t := by
  subst hty
  obtain ⟨T', h', kA, X', e', E', A', st'⟩ := newP X hx hZ w eT (g := mkF m pc Ls (.int n :: rest)) rfl hd rfl hn hcap hb hc hl
  exact ⟨T', h', h.size, kA, X', e', E', rfl, (Arv.new A' hn).pad (pad_rep [] _ cap), st'⟩
theorem own_stB (X : Stand p l e R s m args below meth c T locs cells slots) (hx : p.tables.exec = Jvm.exec) (hZ : Z.Warmed39 s.vm) (eT : T.heap = h) {b : Addr} {kA : ClassId} {n j y : Int32} {vs vs' : List Value} {dv : Value} (V : Arv Z h b kA .byte n vs dv) (hy : y.toInt8.toInt32 = y) (hj : ¬ j < 0 ∧ j < n) (i : Nat) (hi : j.toNatClampNeg = i) (hil : i < vs.length) (hvs : vs.set i (.int y) = vs') {n0 : Nat} (N : Fr n0 locs) (g : n0 ≤ b)
    (hd : decode c.code pc = .ok (.bastore, 1)) :
    ∃ T' h' L', Stand p l e R s m args below meth c T' L' cells slots ∧ Fr n0 L' ∧ T'.heap = h' ∧ Wr h h' b i (.int y) ∧ Arv Z h' b kA .byte n vs' dv ∧ ∀ t, Steps p.tables e below (T'.setTop (mkF m (pc + 1) Ls rest)) t → Steps p.tables e below (T.setTop (mkF m pc Ls (.int y :: .int j :: .ref b :: rest))) t := by
  obtain ⟨cl, A, q, S, Nn, H, G⟩ := V
  subst hvs
  obtain ⟨T', h', X', e', W', st'⟩ := stB X hx hZ eT A (j := j) (inb_of S hj) (g := mkF m pc Ls (.int y :: .int j :: .ref b :: rest)) rfl rfl hd
  have hn : nar .byte y = y := hy
  rw [hn] at W'
  refine ⟨T', h', _, X', Fr.snoc X' N g, e', hi ▸ W', Arv.set A q S Nn H G (by have := fits_nar_byte y; rwa [hy] at this) W' i hi hil, st'⟩
theorem own_stJ (X : Stand p l e R s m args below meth c T locs cells slots) (hx : p.tables.exec = Jvm.exec) (hZ : Z.Warmed39 s.vm) (eT : T.heap = h) {b : Addr} {kA : ClassId} {n j : Int32} {y : Int64} {vs vs' : List Value} {dv : Value} (V : Arv Z h b kA .long n vs dv) (hj : ¬ j < 0 ∧ j < n) (i : Nat) (hi : j.toNatClampNeg = i) (hil : i < vs.length) (hvs : vs.set i (.long y) = vs') {n0 : Nat} (N : Fr n0 locs) (g : n0 ≤ b)
    (hd : decode c.code pc = .ok (.lastore, 1)) :
    ∃ T' h' L', Stand p l e R s m args below meth c T' L' cells slots ∧ Fr n0 L' ∧ T'.heap = h' ∧ Wr h h' b i (.long y) ∧ Arv Z h' b kA .long n vs' dv ∧ ∀ t, Steps p.tables e below (T'.setTop (mkF m (pc + 1) Ls rest)) t → Steps p.tables e below (T.setTop (mkF m pc Ls (.long y :: .int j :: .ref b :: rest))) t := by
  obtain ⟨cl, A, q, S, Nn, H, G⟩ := V
  subst hvs
  obtain ⟨T', h', X', e', W', st'⟩ := stJ X hx hZ eT A (j := j) (inb_of S hj) (g := mkF m pc Ls (.long y :: .int j :: .ref b :: rest)) rfl rfl hd
  refine ⟨T', h', _, X', Fr.snoc X' N g, e', hi ▸ W', Arv.set A q S Nn H G rfl W' i hi hil, st'⟩
theorem own_ldB (X : Stand p l e R s m args below meth c T locs cells slots) (hx : p.tables.exec = Jvm.exec) (hZ : Z.Warmed39 s.vm) (eT : T.heap = h) {b : Addr} {kA : ClassId} {n j : Int32} {vs : List Value} {dv v : Value} (V : Arv Z h b kA .byte n vs dv) (hj : ¬ j < 0 ∧ j < n) (hv : vs.getD j.toNatClampNeg dv = v) (hd : decode c.code pc = .ok (.baload, 1)) :
    ∀ t, Steps p.tables e below (T.setTop (mkF m (pc + 1) Ls (v :: rest))) t → Steps p.tables e below (T.setTop (mkF m pc Ls (.int j :: .ref b :: rest))) t := by
  obtain ⟨cl, A, q, S, Nn, H, G⟩ := V
  intro t k
  exact X.baloadBytes hx (j := j) (v := v) (by rw [eT]; exact A.1) (State.isArrayOf_alike hZ.alike A.2.1) A.2.2 (inb_of S hj) (H.at (inb_of S hj) hv) (g := mkF m pc Ls (.int j :: .ref b :: rest)) rfl rfl hd t k
theorem own_ldJ (X : Stand p l e R s m args below meth c T locs cells slots) (hx : p.tables.exec = Jvm.exec) (hZ : Z.Warmed39 s.vm) (eT : T.heap = h) {b : Addr} {kA : ClassId} {n j : Int32} {vs : List Value} {dv v : Value} (V : Arv Z h b kA .long n vs dv) (hj : ¬ j < 0 ∧ j < n) (hv : vs.getD j.toNatClampNeg dv = v) (hd : decode c.code pc = .ok (.laload, 1)) :
    ∀ t, Steps p.tables e below (T.setTop (mkF m (pc + 1) Ls (v :: rest))) t → Steps p.tables e below (T.setTop (mkF m pc Ls (.int j :: .ref b :: rest))) t := by
  obtain ⟨cl, A, q, S, Nn, H, G⟩ := V
  intro t k
  exact X.laload hx (j := j) (v := v) (by rw [eT]; exact A.1) (State.isArrayOf_alike hZ.alike A.2.1) A.2.2 (inb_of S hj) (H.at (inb_of S hj) hv) (g := mkF m pc Ls (.int j :: .ref b :: rest)) rfl rfl hd t k
end OwnPrim
section OwnObj
variable {p : Program} {l : Launch} {e : Env} {R : Room} {s : State} {m : MethodId} {args : Array Value} {below : List Frame} {meth : Method} {c : Code} {T : State} {locs : List Loc} {cells slots : Nat} {Z : State} {a0 : Array Value} {pc : Nat} {Ls : Array Slot} {st rest : List Value} {h : Heap}
theorem own_newO (X : Stand p l e R s m args below meth c T locs cells slots) (hx : p.tables.exec = Jvm.exec) (hZ : Z.Warmed39 s.vm) {own C : String} {index n : Nat} (hown : s.vm.findClass own = some m.cls) (w : (Jvm.Cond.classLink own index C).before a0 Z = true) (wi : (Jvm.Cond.instantiable C n).before a0 Z = true) (wz : (Jvm.Cond.initialized C).before a0 Z = true) (eT : T.heap = h)
    (hd : decode c.code pc = .ok (.new index, 3)) (hc : cells + 1 ≤ R.cells) (hl : slots + n ≤ R.slots) :
    ∃ T' h' b, Stand p l e R s m args below meth c T' locs (cells + 1) (slots + n) ∧ T'.heap = h' ∧ Ext h h' ∧ b = h.size ∧ Exa Z h' b C ∧ (∀ {O nm d : String} {ty : FieldType}, Laid Z a0 C O nm d → parseFieldDescriptor d = some ty → Fld Z h' b O nm d (defaultValue ty)) ∧
      ∀ t, Steps p.tables e below (T'.setTop (mkF m (pc + 3) Ls (.ref b :: st))) t → Steps p.tables e below (T.setTop (mkF m pc Ls st)) t := by
  obtain ⟨T', h', X', e', E', A', D', -, st'⟩ := newO X hx hZ hown w wi wz eT (g := mkF m pc Ls st) rfl hd hc hl
  exact ⟨T', h', h.size, X', e', E', rfl, A', D', st'⟩
theorem own_refNar {t : FieldType} {v : Value} (ht : t.isReference = true) (hv : v.isRef = true) : narrow t v = v := by
  rcases ref_cases hv with rfl | ⟨a, rfl⟩ <;> cases t <;> first | rfl | cases ht
theorem own_refFit {t : FieldType} {v : Value} (ht : t.isReference = true) (hv : v.isRef = true) : fits t v = true := by
  rcases ref_cases hv with rfl | ⟨a, rfl⟩ <;> cases t <;> first | rfl | cases ht
theorem own_putF (X : Stand p l e R s m args below meth c T locs cells slots) (hx : p.tables.exec = Jvm.exec) (hZ : Z.Warmed39 s.vm) {own R0 O n d host C : String} {index kk : Nat} (hown : s.vm.findClass own = some m.cls) (w : (Jvm.Cond.fieldLink own index R0 n d).before a0 Z = true ∨ (Jvm.Cond.fieldLinkNest own index R0 n d host).before a0 Z = true) (via : Via Z R0 O n d)
    (eT : T.heap = h) {a : Addr} {v old : Value} (F : Fld Z h a O n d old) (E : Exa Z h a C) (L : (Jvm.Cond.lays C O n d).before a0 Z = true ∨ ((Jvm.Cond.laysFinal C O n d).before a0 Z = true ∧ own = O ∧ meth.name = "<init>")) (wi : (Jvm.Cond.instantiable C kk).before a0 Z = true)
    (ty : FieldType) (hty : parseFieldDescriptor d = some ty) (hn : narrow ty v = v) (hf : fits ty v = true) {n0 : Nat} (N : Fr n0 locs) (g : n0 ≤ a) (hd : decode c.code pc = .ok (.putfield index, 3)) :
    ∃ T' h' L', Stand p l e R s m args below meth c T' L' cells slots ∧ Fr n0 L' ∧ T'.heap = h' ∧ Wr h h' a (Jvm.RoadKit.slotOf Z O n d) v ∧ Fld Z h' a O n d v ∧ ∀ t, Steps p.tables e below (T'.setTop (mkF m (pc + 3) Ls rest)) t → Steps p.tables e below (T.setTop (mkF m pc Ls (v :: .ref a :: rest))) t := by
  obtain ⟨T', h', X', e', W', st'⟩ := putF X hx hZ hown w via eT F E L wi (ty := ty) hty hn hf (g := mkF m pc Ls (v :: .ref a :: rest)) rfl rfl hd
  exact ⟨T', h', _, X', Fr.snoc X' N g, e', W', F.same W', st'⟩
end OwnObj
section OwnClone
variable {p : Program} {l : Launch} {e : Env} {R : Room} {s : State} {m : MethodId} {args : Array Value} {below : List Frame} {meth : Method} {c : Code} {T : State} {locs : List Loc} {cells slots : Nat} {Z : State} {a0 : Array Value} {pc : Nat} {Ls : Array Slot} {rest : List Value} {h : Heap}
theorem own_clone (X : Stand p l e R s m args below meth c T locs cells slots) (hx : p.tables.exec = Jvm.exec) (hZ : Z.Warmed39 s.vm) {own ad : String} {index : Nat} (hown : s.vm.findClass own = some m.cls)
    (w1 : (Jvm.Cond.methodLink own index ⟨ad, "clone", "()Ljava/lang/Object;"⟩).before a0 Z = true) (w2 : (Jvm.Cond.sameMethod ad "java/lang/Object" "clone" "()Ljava/lang/Object;").before a0 Z = true) (w3 : (Jvm.Cond.native ⟨"java/lang/Object", "clone", "()Ljava/lang/Object;"⟩).before a0 Z = true)
    (w4 : (Jvm.Cond.instanceMethod ⟨"java/lang/Object", "clone", "()Ljava/lang/Object;"⟩).before a0 Z = true) (w5 : (Jvm.Cond.selects ad ⟨ad, "clone", "()Ljava/lang/Object;"⟩ ⟨"java/lang/Object", "clone", "()Ljava/lang/Object;"⟩).before a0 Z = true) (w6 : (Jvm.Cond.castable ad "java/lang/Cloneable").before a0 Z = true)
    (eT : T.heap = h) {a : Addr} {k : ClassId} {ty : FieldType} {z : Int32} {vs : List Value} {dv : Value} (F : Arv Z h a k ty z vs dv) (E : Exa Z h a ad) (hsz : Ls.size = c.maxLocals) (hd : decode c.code pc = .ok (.invokevirtual index, 3))
    (hf : 1 ≤ R.frames) (W cap : Nat) (hW : (rest.map fun v => v.category).sum ≤ W) (hl : W + 14 ≤ R.locals) (hcap : z.toNatClampNeg ≤ cap) (hc : cells + 1 ≤ R.cells) (hsl : slots + cap ≤ R.slots) :
    ∃ T' h' b, Stand p l e R s m args below meth c T' locs (cells + 1) (slots + cap) ∧ T'.heap = h' ∧ Ext h h' ∧ b = h.size ∧ Arv Z h' b k ty z vs dv ∧ Exa Z h' b ad ∧
      ∀ t, Steps p.tables e below (T'.setTop (mkF m (pc + 3) Ls (.ref b :: rest))) t → Steps p.tables e below (T.setTop (mkF m pc Ls (.ref a :: rest))) t := by
  obtain ⟨cl, A, q1, S, q3, H, G⟩ := F
  have FC : FitC Z cl := fitC_of A fun i hi v hv => by rw [H i hi] at hv; cases hv; exact G i hi
  obtain ⟨T', h', X', e', ex, A', E', st⟩ := cloneA X hx hZ hown w1 w2 w3 w4 w5 w6 eT A E FC (g := mkF m pc Ls (.ref a :: rest)) rfl hsz rfl hd hf (W := W) (cap := cap) (by show 2 * 0 + _ ≤ _; omega) hl (by rw [S]; exact hcap) hc hsl
  exact ⟨T', h', h.size, X', e', ex, rfl, ⟨cloneOf cl, A', q1, S, q3, H, G⟩, E', st⟩
theorem own_lrem {g : JFrame} {target : State} (X : Stand p l e R s m args below meth c T locs cells slots) (hx : p.tables.exec = Jvm.exec) (hg : g.method = m) {x y : Int64} {rest : List Value} (hd : decode c.code g.pc = .ok (.lrem, 1)) (hs : g.stack = .long y :: .long x :: rest) (hy : y ≠ 0)
    (hr : Steps p.tables e below (T.setTop { g with pc := g.pc + 1, stack := .long (x % y) :: rest }) target) : Steps p.tables e below (T.setTop g) target := by
  have q : x - x / y * y = x % y := by
    rw [← Int64.toInt_inj, Int64.toInt_sub, Int64.toInt_mul, Int64.toInt_div, Int64.toInt_mod]
    have h1 := Int.tmod_def x.toInt y.toInt
    have hb := Int64.toInt_mod x y
    have hr1 := (x % y).le_toInt
    have hr2 := (x % y).toInt_lt
    rw [Int64.toInt_mod] at hr1 hr2
    rw [Int.bmod_mul_bmod, Int.sub_bmod_bmod, Int.mul_comm, ← h1]
    exact Int.bmod_eq_of_le (by omega) (by omega)
  exact XS.lrem X.here hx hg hd hs hy (by rw [q]; exact hr)
end OwnClone
section OwnDec
abbrev own_dig (x : Int32) : Prop := ¬ x < 48 ∧ ¬ 57 < x
def own_ten (i : Nat) : Int64 := Int64.ofInt (10 ^ i)
def own_dg (m p : Int64) : Int32 := ((48 : Int64) + (m / p) % 10).toInt32.toInt8.toInt32
def own_run (f : Nat → Int32) : Nat → Nat → Int64 → Int64
  | _, 0, a => a
  | i, k + 1, a => own_run f (i + 1) k (if own_dig (f i) then a * 10 + (f i - 48).toInt64 else a)
def own_st (f : Nat → Int32) (a t : Nat) : Nat := if a < t ∧ f a = 45 then a + 1 else a
def own_G (f : Nat → Int32) (a t : Nat) : Prop := (∀ j, own_st f a t ≤ j → j < t → own_dig (f j)) ∧ own_st f a t < t ∧ t - own_st f a t ≤ 18
def own_D (f : Nat → Int32) (a t : Nat) : Int64 := if f a = 45 then - own_run f a (t - a) 0 else own_run f a (t - a) 0
def own_f0 (m : Int64) (i : Nat) : Int32 := if i = 0 ∨ i = 20 then 0 else own_dg m (own_ten (19 - i))
def own_f1 (m : Int64) (tb wo cb : Int32) (k : Nat) (i : Nat) : Int32 := if wo ≠ 0 ∧ i = k then cb else if i = 20 then tb else own_f0 m i
def own_f2 (m : Int64) (tb wo cb so sb : Int32) (k n : Nat) (i : Nat) : Int32 := if so ≠ 0 ∧ i = 19 - n then sb else own_f1 m tb wo cb k i
theorem own_tenInt {i : Nat} (h : i ≤ 18) : (own_ten i).toInt = 10 ^ i := by
  have : ∀ j : Fin 19, (Int64.ofInt (10 ^ j.val)).toInt = 10 ^ j.val := by decide
  exact this ⟨i, by omega⟩
theorem own_pow_pos (i : Nat) : (0 : Int) < 10 ^ i := Int.pow_pos (by decide)
/-- the digit's sign: its number, and that it is a digit -/
theorem own_dgInt {m : Int64} (hm : 0 ≤ m.toInt) {i : Nat} (hi : i ≤ 18) : (own_dg m (own_ten i)).toInt = 48 + m.toInt / 10 ^ i % 10 := by
  have hp := own_pow_pos i
  have e1 : (m / own_ten i).toInt = m.toInt / 10 ^ i := by
    rw [Int64.toInt_div, own_tenInt hi, Int.tdiv_eq_ediv_of_nonneg hm]
    have h1 : m.toInt / 10 ^ i ≤ m.toInt := Int.ediv_le_self _ hm
    have h2 : 0 ≤ m.toInt / 10 ^ i := Int.ediv_nonneg hm (Int.le_of_lt hp)
    have h3 := m.toInt_lt
    exact Int.bmod_eq_of_le (by omega) (by omega)
  have h2 : 0 ≤ m.toInt / 10 ^ i := Int.ediv_nonneg hm (Int.le_of_lt hp)
  have e2 : ((m / own_ten i) % 10).toInt = m.toInt / 10 ^ i % 10 := by
    rw [Int64.toInt_mod, e1]
    exact Int.tmod_eq_emod_of_nonneg h2
  generalize m.toInt / 10 ^ i = q at *
  have h4 : 0 ≤ q % 10 := Int.emod_nonneg _ (by decide)
  have h5 : q % 10 < 10 := Int.emod_lt_of_pos _ (by decide)
  generalize q % 10 = r at *
  have e3 : ((48 : Int64) + (m / own_ten i) % 10).toInt = 48 + r := by
    rw [Int64.toInt_add, e2]
    exact Int.bmod_eq_of_le (by show -9223372036854775808 ≤ (48 : Int) + r; omega) (by show (48 : Int) + r < _; omega)
  show (((48 : Int64) + (m / own_ten i) % 10).toInt32.toInt8.toInt32).toInt = 48 + r
  generalize (48 : Int64) + (m / own_ten i) % 10 = w at *
  have e4 : w.toInt32.toInt = 48 + r := by
    rw [Int64.toInt_toInt32, e3]; exact Int.bmod_eq_of_le (by omega) (by omega)
  rw [Int8.toInt_toInt32, Int32.toInt_toInt8, e4]
  exact Int.bmod_eq_of_le (by omega) (by omega)
theorem own_digInt {x : Int32} : own_dig x ↔ 48 ≤ x.toInt ∧ x.toInt ≤ 57 := by
  have e1 : (48 : Int32).toInt = 48 := rfl
  have e2 : (57 : Int32).toInt = 57 := rfl
  simp only [own_dig, Int32.lt_iff_toInt_lt, e1, e2]; omega
theorem own_dgDig {m : Int64} (hm : 0 ≤ m.toInt) {i : Nat} (hi : i ≤ 18) : own_dig (own_dg m (own_ten i)) := by
  rw [own_digInt, own_dgInt hm hi]
  have h4 : 0 ≤ m.toInt / 10 ^ i % 10 := Int.emod_nonneg _ (by decide)
  have h5 : m.toInt / 10 ^ i % 10 < 10 := Int.emod_lt_of_pos _ (by decide)
  omega
theorem own_dgByte (m p : Int64) : (own_dg m p).toInt8.toInt32 = own_dg m p := by simp [own_dg]
theorem own_dig45 : ¬ own_dig 45 := by decide

theorem own_eq45 {x : Int32} (h : own_dig x) : x ≠ 45 := fun q => own_dig45 (q ▸ h)
section Law
variable {m : Int64} {tb wo cb so sb tO : Int32} {k n : Nat}
/-- what stands at the places 20 - n .. 19 -/
theorem own_mid (hm : 0 ≤ m.toInt) (hn : n ≤ 19) (hk : wo = 0 ∨ (20 - n < k ∧ k ≤ 19)) {j : Nat} (h1 : 20 - n ≤ j) (h2 : j < 20) :
    own_f2 m tb wo cb so sb k n j = if wo ≠ 0 ∧ j = k then cb else own_dg m (own_ten (19 - j)) := by
  unfold own_f2 own_f1 own_f0
  rw [if_neg (by omega)]
  by_cases q : wo ≠ 0 ∧ j = k
  · rw [if_pos q, if_pos q]
  · rw [if_neg q, if_neg q, if_neg (by omega), if_neg (by omega)]
theorem own_last (hn : n ≤ 19) (hk : wo = 0 ∨ (20 - n < k ∧ k ≤ 19)) : own_f2 m tb wo cb so sb k n 20 = tb := by
  unfold own_f2 own_f1
  rw [if_neg (by omega), if_neg (fun z => by have := hk.resolve_left z.1; omega), if_pos rfl]
theorem own_fst (hs : so ≠ 0) : own_f2 m tb wo cb so sb k n (19 - n) = sb := by
  unfold own_f2
  rw [if_pos ⟨hs, rfl⟩]
def own_a (so : Int32) (n : Nat) : Nat := if so ≠ 0 then 19 - n else 20 - n
def own_t (tO : Int32) : Nat := if tO ≠ 0 then 21 else 20
def own_OK (tb wo cb so sb tO : Int32) : Prop := (so = 0 ∨ sb = 45 ∨ own_dig sb) ∧ (tO = 0 ∨ own_dig tb) ∧ (wo = 0 ∨ own_dig cb)
def own_cnt (tb so sb tO : Int32) (n : Nat) : Nat := n + (if so ≠ 0 ∧ own_dig sb then 1 else 0) + (if tO ≠ 0 ∧ own_dig tb then 1 else 0)
theorem own_midDig (hm : 0 ≤ m.toInt) (hn : n ≤ 19) (hk : wo = 0 ∨ (20 - n < k ∧ k ≤ 19)) : (∀ j, 20 - n ≤ j → j < 20 → own_dig (own_f2 m tb wo cb so sb k n j)) ↔ (wo = 0 ∨ own_dig cb) := by
  constructor
  · intro h
    by_cases q : wo = 0
    · exact Or.inl q
    · have q1 := hk.resolve_left q
      have := h k (by omega) (by omega)
      rw [own_mid hm hn hk (by omega) (by omega), if_pos ⟨q, rfl⟩] at this
      exact Or.inr this
  · intro h j h1 h2
    rw [own_mid hm hn hk h1 h2]
    by_cases q : wo ≠ 0 ∧ j = k
    · rw [if_pos q]; exact h.resolve_left q.1
    · rw [if_neg q]; exact own_dgDig hm (by omega)
/-- A: the reading takes the text just where the law says so -/
theorem own_A (hm : 0 ≤ m.toInt) (hn : n ≤ 19) (hk : wo = 0 ∨ (20 - n < k ∧ k ≤ 19)) :
    own_G (own_f2 m tb wo cb so sb k n) (own_a so n) (own_t tO) ↔ own_OK tb wo cb so sb tO ∧ 0 < own_cnt tb so sb tO n ∧ own_cnt tb so sb tO n ≤ 18 := by
  have hmid := own_midDig (tb := tb) (cb := cb) (so := so) (sb := sb) hm hn hk
  have hlast : own_f2 m tb wo cb so sb k n 20 = tb := own_last hn hk
  -- the digits from 20 - n on
  have hfrom : (∀ j, 20 - n ≤ j → j < own_t tO → own_dig (own_f2 m tb wo cb so sb k n j)) ↔ (tO = 0 ∨ own_dig tb) ∧ (wo = 0 ∨ own_dig cb) := by
    rw [← hmid]
    unfold own_t
    by_cases q : tO = 0
    · rw [if_neg (fun z => z q)]
      exact ⟨fun h => ⟨Or.inl q, h⟩, fun h => h.2⟩
    · rw [if_pos q]
      constructor
      · intro h
        exact ⟨Or.inr (hlast ▸ h 20 (by omega) (by omega)), fun j h1 h2 => h j h1 (by omega)⟩
      · intro h j h1 h2
        by_cases z : j = 20
        · rw [z, hlast]; exact h.1.resolve_left q
        · exact h.2 j h1 (by omega)
  have ht : own_t tO = 20 ∨ own_t tO = 21 := by unfold own_t; split <;> simp
  have htt : own_t tO = 21 ↔ tO ≠ 0 := by unfold own_t; split <;> simp_all
  by_cases hs : so = 0
  · -- no sign
    have ea : own_a so n = 20 - n := by unfold own_a; rw [if_neg (fun z => z hs)]
    have ec : own_cnt tb so sb tO n = n + (if tO ≠ 0 ∧ own_dig tb then 1 else 0) := by unfold own_cnt; rw [if_neg (fun z => z.1 hs)]; omega
    rw [ea, ec]
    unfold own_G own_OK
    by_cases h45 : 20 - n < own_t tO ∧ own_f2 m tb wo cb so sb k n (20 - n) = 45
    · -- a minus where a digit is due: then n = 0 and the tail is the minus
      have hn0 : n = 0 := by
        refine Classical.byContradiction fun z => ?_
        have h1 := own_mid (tb := tb) (cb := cb) (so := so) (sb := sb) hm hn hk (j := 20 - n) (by omega) (by omega)
        rw [if_neg (fun y => by have := hk.resolve_left y.1; omega)] at h1
        exact own_eq45 (own_dgDig hm (by omega)) (h1.symm.trans h45.2)
      subst hn0
      have hb : tb = 45 := hlast.symm.trans h45.2
      have hst : own_st (own_f2 m tb wo cb so sb k 0) (20 - 0) (own_t tO) = 21 := by unfold own_st; rw [if_pos h45]
      rw [hst]
      have hnd : ¬ own_dig tb := by rw [hb]; exact own_dig45
      constructor
      · intro h
        have := h.2.1
        omega
      · intro h
        have h1 := h.1.2.1.resolve_right hnd
        have h2 := h.2.1
        rw [if_neg (fun z => z.1 h1)] at h2
        omega
    · have hst : own_st (own_f2 m tb wo cb so sb k n) (20 - n) (own_t tO) = 20 - n := by unfold own_st; rw [if_neg h45]
      rw [hst, hfrom]
      constructor
      · intro h
        refine ⟨⟨Or.inl hs, h.1.1, h.1.2⟩, ?_⟩
        rcases ht with q | q
        · have z : tO = 0 := Classical.byContradiction fun z => by have := htt.mpr z; omega
          rw [if_neg (fun y => y.1 z)]; omega
        · have z := htt.mp q
          rw [if_pos ⟨z, h.1.1.resolve_left z⟩]; omega
      · intro h
        refine ⟨⟨h.1.2.1, h.1.2.2⟩, ?_⟩
        have h2 := h.2
        rcases ht with q | q
        · have z : tO = 0 := Classical.byContradiction fun z => by have := htt.mpr z; omega
          rw [if_neg (fun y => y.1 z)] at h2; omega
        · have z := htt.mp q
          rw [if_pos ⟨z, h.1.2.1.resolve_left z⟩] at h2; omega
  · -- a sign
    have ea : own_a so n = 19 - n := by unfold own_a; rw [if_pos hs]
    have ef : own_f2 m tb wo cb so sb k n (19 - n) = sb := own_fst hs
    rw [ea]
    unfold own_G own_OK
    by_cases h45 : sb = 45
    · have hst : own_st (own_f2 m tb wo cb so sb k n) (19 - n) (own_t tO) = 20 - n := by
        unfold own_st; rw [if_pos ⟨by omega, ef.trans h45⟩]; omega
      have hnd : ¬ own_dig sb := by rw [h45]; exact own_dig45
      have ec : own_cnt tb so sb tO n = n + (if tO ≠ 0 ∧ own_dig tb then 1 else 0) := by unfold own_cnt; rw [if_neg (fun z => hnd z.2)]; omega
      rw [hst, ec, hfrom]
      constructor
      · intro h
        refine ⟨⟨Or.inr (Or.inl h45), h.1.1, h.1.2⟩, ?_⟩
        rcases ht with q | q
        · have z : tO = 0 := Classical.byContradiction fun z => by have := htt.mpr z; omega
          rw [if_neg (fun y => y.1 z)]; omega
        · have z := htt.mp q
          rw [if_pos ⟨z, h.1.1.resolve_left z⟩]; omega
      · intro h
        refine ⟨⟨h.1.2.1, h.1.2.2⟩, ?_⟩
        have h2 := h.2
        rcases ht with q | q
        · have z : tO = 0 := Classical.byContradiction fun z => by have := htt.mpr z; omega
          rw [if_neg (fun y => y.1 z)] at h2; omega
        · have z := htt.mp q
          rw [if_pos ⟨z, h.1.2.1.resolve_left z⟩] at h2; omega
    · have hst : own_st (own_f2 m tb wo cb so sb k n) (19 - n) (own_t tO) = 19 - n := by
        unfold own_st; rw [if_neg (fun z => h45 (ef.symm.trans z.2))]
      rw [hst]
      have hall : (∀ j, 19 - n ≤ j → j < own_t tO → own_dig (own_f2 m tb wo cb so sb k n j)) ↔ own_dig sb ∧ (tO = 0 ∨ own_dig tb) ∧ (wo = 0 ∨ own_dig cb) := by
        rw [← hfrom]
        constructor
        · intro h
          exact ⟨ef ▸ h (19 - n) (Nat.le_refl _) (by omega), fun j h1 h2 => h j (by omega) h2⟩
        · intro h j h1 h2
          by_cases z : j = 19 - n
          · rw [z, ef]; exact h.1
          · exact h.2 j (by omega) h2
      rw [hall]
      constructor
      · intro h
        refine ⟨⟨Or.inr (Or.inr h.1.1), h.1.2⟩, ?_⟩
        unfold own_cnt
        rw [if_pos ⟨hs, h.1.1⟩]
        rcases ht with q | q
        · have z : tO = 0 := Classical.byContradiction fun z => by have := htt.mpr z; omega
          rw [if_neg (fun y => y.1 z)]; omega
        · have z := htt.mp q
          rw [if_pos ⟨z, h.1.2.1.resolve_left z⟩]; omega
      · intro h
        have hd : own_dig sb := (h.1.1.resolve_left hs).resolve_left h45
        refine ⟨⟨hd, h.1.2⟩, ?_⟩
        have h2 := h.2
        unfold own_cnt at h2
        rw [if_pos ⟨hs, hd⟩] at h2
        rcases ht with q | q
        · have z : tO = 0 := Classical.byContradiction fun z => by have := htt.mpr z; omega
          rw [if_neg (fun y => y.1 z)] at h2; omega
        · have z := htt.mp q
          rw [if_pos ⟨z, h.1.2.1.resolve_left z⟩] at h2; omega

theorem own_ofAdd (a b : Int) : Int64.ofInt a + Int64.ofInt b = Int64.ofInt (a + b) := (Int64.ofInt_add ..).symm
theorem own_ofMul (a b : Int) : Int64.ofInt a * Int64.ofInt b = Int64.ofInt (a * b) := (Int64.ofInt_mul ..).symm
theorem own_ofSub (a b : Int) : Int64.ofInt a - Int64.ofInt b = Int64.ofInt (a - b) := (Int64.ofInt_sub ..).symm
theorem own_ofI {z : Int} (h1 : -9223372036854775808 ≤ z) (h2 : z < 9223372036854775808) : (Int64.ofInt z).toInt = z := by
  have e : (Int64.size : Int) = 18446744073709551616 := rfl
  rw [Int64.toInt_ofInt]
  exact Int.bmod_eq_of_le (by omega) (by omega)
theorem own_modLe {M P : Int} (hM : 0 ≤ M) (hP : 0 < P) : M % P ≤ M := by
  have h1 := Int.emod_add_mul_ediv M P
  have h2 : 0 ≤ P * (M / P) := Int.mul_nonneg (Int.le_of_lt hP) (Int.ediv_nonneg hM (Int.le_of_lt hP))
  omega
theorem own_chr {x : Int32} (h : own_dig x) : (x - 48).toInt64 = Int64.ofInt (x.toInt - 48) := by
  have h1 := own_digInt.mp h
  have e48 : (48 : Int32).toInt = 48 := rfl
  have e : (x - 48).toInt = x.toInt - 48 := by
    rw [Int32.toInt_sub, e48]; exact Int.bmod_eq_of_le (by omega) (by omega)
  rw [← Int64.toInt_inj, Int32.toInt_toInt64, e, own_ofI (by omega) (by omega)]
theorem own_mInt (m : Int64) : m = Int64.ofInt m.toInt := by simp
theorem own_modTen (hm : 0 ≤ m.toInt) {i : Nat} (hi : i ≤ 18) : m % own_ten i = Int64.ofInt (m.toInt % 10 ^ i) := by
  have h1 : 0 ≤ m.toInt % 10 ^ i := Int.emod_nonneg _ (Int.ne_of_gt (own_pow_pos i))
  have h2 : m.toInt % 10 ^ i ≤ m.toInt := own_modLe hm (own_pow_pos i)
  have h3 := m.toInt_lt
  rw [← Int64.toInt_inj, Int64.toInt_mod, own_tenInt hi, Int.tmod_eq_emod_of_nonneg hm, own_ofI (by omega) (by omega)]
theorem own_divTen (hm : 0 ≤ m.toInt) {i : Nat} (hi : i ≤ 18) : (m / own_ten i) % 10 = Int64.ofInt (m.toInt / 10 ^ i % 10) := by
  have hp := own_pow_pos i
  have e1 : (m / own_ten i).toInt = m.toInt / 10 ^ i := by
    rw [Int64.toInt_div, own_tenInt hi, Int.tdiv_eq_ediv_of_nonneg hm]
    have h1 : m.toInt / 10 ^ i ≤ m.toInt := Int.ediv_le_self _ hm
    have h2 : 0 ≤ m.toInt / 10 ^ i := Int.ediv_nonneg hm (Int.le_of_lt hp)
    have h3 := m.toInt_lt
    exact Int.bmod_eq_of_le (by omega) (by omega)
  have h2 : 0 ≤ m.toInt / 10 ^ i := Int.ediv_nonneg hm (Int.le_of_lt hp)
  have e10 : (10 : Int64).toInt = 10 := rfl
  have h4 : 0 ≤ m.toInt / 10 ^ i % 10 := Int.emod_nonneg _ (by decide)
  have h5 : m.toInt / 10 ^ i % 10 < 10 := Int.emod_lt_of_pos _ (by decide)
  rw [← Int64.toInt_inj, Int64.toInt_mod, e1, e10, Int.tmod_eq_emod_of_nonneg h2, own_ofI (by omega) (by omega)]
theorem own_runAdd (f : Nat → Int32) (k2 : Nat) : ∀ (k1 i : Nat) (a : Int64), own_run f i (k1 + k2) a = own_run f (i + k1) k2 (own_run f i k1 a)
  | 0, i, a => by simp [own_run]
  | k1 + 1, i, a => by
    have h := own_runAdd f k2 k1 (i + 1) (if own_dig (f i) then a * 10 + (f i - 48).toInt64 else a)
    rw [show k1 + 1 + k2 = (k1 + k2) + 1 by omega, show i + (k1 + 1) = i + 1 + k1 by omega]
    exact h
/-- what the last c figures say, the wild one among them -/
def own_W (M : Int) (wo : Int32) (k : Nat) (cv : Int) (c : Nat) : Int := if wo ≠ 0 ∧ 20 - c ≤ k then M % 10 ^ c + (cv - M / 10 ^ (19 - k) % 10) * 10 ^ (19 - k) else M % 10 ^ c
theorem own_modSucc (M : Int) (c : Nat) : M % 10 ^ (c + 1) = M % 10 ^ c + 10 ^ c * (M / 10 ^ c % 10) := by
  rw [Int.pow_succ]
  have hp := own_pow_pos c
  have h1 := Int.emod_add_mul_ediv M (10 ^ c)
  have h2 := Int.emod_add_mul_ediv (M / 10 ^ c) 10
  have h3 : M / (10 ^ c * 10) = M / 10 ^ c / 10 := (Int.ediv_ediv_of_nonneg (Int.le_of_lt hp)).symm
  have h4 := Int.emod_add_mul_ediv M (10 ^ c * 10)
  rw [h3] at h4
  generalize (10 : Int) ^ c = P at *
  generalize M / P / 10 = q at *
  generalize M % P = r at *
  generalize M / P % 10 = d at *
  have h5 : M = r + P * (d + 10 * q) := by rw [h2]; exact h1.symm
  rw [Int.mul_add, ← Int.mul_assoc] at h5
  omega
theorem own_midRun (hm : 0 ≤ m.toInt) (hn : n ≤ 18) (hk : wo = 0 ∨ (20 - n < k ∧ k ≤ 19)) (hc : wo = 0 ∨ own_dig cb) : ∀ (c : Nat), c ≤ n → ∀ A : Int,
    own_run (own_f2 m tb wo cb so sb k n) (20 - c) c (Int64.ofInt A) = Int64.ofInt (A * 10 ^ c + own_W m.toInt wo k (cb.toInt - 48) c)
  | 0, _, A => by
    have e : own_W m.toInt wo k (cb.toInt - 48) 0 = 0 := by
      unfold own_W; rw [if_neg (fun z => by have := hk.resolve_left z.1; omega)]; simp [Int.emod_one]
    rw [e]; simp [own_run]
  | c + 1, hcn, A => by
    have hp : 20 - (c + 1) = 19 - c := by omega
    have hd := own_midDig (tb := tb) (cb := cb) (so := so) (sb := sb) hm (show n ≤ 19 by omega) hk |>.mpr hc (19 - c) (by omega) (by omega)
    have hv := own_mid (tb := tb) (cb := cb) (so := so) (sb := sb) hm (show n ≤ 19 by omega) hk (j := 19 - c) (by omega) (by omega)
    rw [hp]
    show own_run _ (19 - c + 1) c (if own_dig (own_f2 m tb wo cb so sb k n (19 - c)) then Int64.ofInt A * 10 + (own_f2 m tb wo cb so sb k n (19 - c) - 48).toInt64 else Int64.ofInt A) = _
    rw [if_pos hd, own_chr hd, show 19 - c + 1 = 20 - c by omega, show Int64.ofInt A * 10 = Int64.ofInt A * Int64.ofInt 10 from rfl, own_ofMul, own_ofAdd, own_midRun hm hn hk hc c (by omega)]
    congr 1
    rw [Int.pow_succ]
    have hs := own_modSucc m.toInt c
    unfold own_W
    by_cases q : wo ≠ 0 ∧ 19 - c = k
    · rw [if_pos q] at hv
      rw [hv, if_neg (by omega), if_pos ⟨q.1, by omega⟩, hs, show 19 - k = c by omega]
      generalize (10 : Int) ^ c = P
      generalize m.toInt / P % 10 = d
      generalize cb.toInt - 48 = v
      rw [Int.add_mul, Int.sub_mul, Int.mul_assoc, Int.mul_comm 10 P, Int.mul_comm P d]
      omega
    · rw [if_neg q, show 19 - (19 - c) = c by omega] at hv
      have hi := own_dgInt hm (i := c) (by omega)
      rw [hv, hi]
      have e0 : (48 : Int) + m.toInt / 10 ^ c % 10 - 48 = m.toInt / 10 ^ c % 10 := by omega
      rw [e0]
      by_cases z : wo ≠ 0 ∧ 20 - c ≤ k
      · rw [if_pos z, if_pos ⟨z.1, by omega⟩, hs]
        generalize (10 : Int) ^ c = P
        generalize m.toInt / P % 10 = d
        rw [Int.add_mul, Int.mul_assoc, Int.mul_comm 10 P, Int.mul_comm P d]
        omega
      · rw [if_neg z, if_neg (fun y => z ⟨y.1, by have : ¬ (19 - c = k) := fun w => q ⟨y.1, w⟩; omega⟩), hs]
        generalize (10 : Int) ^ c = P
        generalize m.toInt / P % 10 = d
        rw [Int.add_mul, Int.mul_assoc, Int.mul_comm 10 P, Int.mul_comm P d]
        omega
/-- B: what is read is what the law reckons -/
theorem own_B (hm : 0 ≤ m.toInt) (hk : wo = 0 ∨ (20 - n < k ∧ k ≤ 19)) (hok : own_OK tb wo cb so sb tO) (hcn : own_cnt tb so sb tO n ≤ 18) (hc0 : 0 < own_cnt tb so sb tO n) {d1 d2 d3 d4 : Int64}
    (w1 : wo = 0 → d1 = m % own_ten n) (w2 : wo ≠ 0 → d1 = m % own_ten n + ((cb - 48).toInt64 - (m / own_ten (19 - k)) % 10) * own_ten (19 - k))
    (s1 : ¬ (so ≠ 0 ∧ own_dig sb) → d2 = d1) (s2 : so ≠ 0 ∧ own_dig sb → d2 = (sb - 48).toInt64 * own_ten n + d1)
    (t1 : ¬ (tO ≠ 0 ∧ own_dig tb) → d3 = d2) (t2 : tO ≠ 0 ∧ own_dig tb → d3 = d2 * 10 + (tb - 48).toInt64)
    (n1 : ¬ (so ≠ 0 ∧ sb = 45) → d4 = d3) (n2 : so ≠ 0 ∧ sb = 45 → d4 = -d3) :
    own_D (own_f2 m tb wo cb so sb k n) (own_a so n) (own_t tO) = d4 := by
  have hn : n ≤ 18 := by unfold own_cnt at hcn; omega
  obtain ⟨o1, o2, o3⟩ := hok
  have hlast : own_f2 m tb wo cb so sb k n 20 = tb := own_last (by omega) hk
  have hW : Int64.ofInt (own_W m.toInt wo k (cb.toInt - 48) n) = d1 := by
    unfold own_W
    by_cases q : wo = 0
    · rw [if_neg (fun z => z.1 q), w1 q, own_modTen hm hn]
    · have q1 := hk.resolve_left q
      rw [if_pos ⟨q, by omega⟩, w2 q, own_modTen hm hn, own_divTen hm (by omega), own_chr (o3.resolve_left q), own_ofSub]
      show _ = _ + _ * Int64.ofInt _
      rw [own_ofMul, own_ofAdd]
  have hmid : ∀ A : Int, own_run (own_f2 m tb wo cb so sb k n) (20 - n) n (Int64.ofInt A) = Int64.ofInt A * own_ten n + d1 := fun A => by
    rw [own_midRun hm hn hk o3 n (Nat.le_refl _) A, ← hW]
    show _ = Int64.ofInt A * Int64.ofInt (10 ^ n) + _
    rw [own_ofMul, own_ofAdd]
  have htail : ∀ a : Int64, own_run (own_f2 m tb wo cb so sb k n) 20 (own_t tO - 20) a = if tO ≠ 0 ∧ own_dig tb then a * 10 + (tb - 48).toInt64 else a := fun a => by
    unfold own_t
    by_cases q : tO = 0
    · rw [if_neg (fun z => z q), if_neg (fun z => z.1 q)]; rfl
    · rw [if_pos q]
      show (if own_dig (own_f2 m tb wo cb so sb k n 20) then a * 10 + (own_f2 m tb wo cb so sb k n 20 - 48).toInt64 else a) = _
      rw [hlast]
      by_cases z : own_dig tb
      · rw [if_pos z, if_pos ⟨q, z⟩]
      · rw [if_neg z, if_neg (fun y => z y.2)]
  have ht : 20 ≤ own_t tO := by unfold own_t; split <;> omega
  have hd3 : (if tO ≠ 0 ∧ own_dig tb then d2 * 10 + (tb - 48).toInt64 else d2) = d3 := by
    by_cases z : tO ≠ 0 ∧ own_dig tb
    · rw [if_pos z, t2 z]
    · rw [if_neg z, t1 z]
  by_cases hs : so = 0
  · have ea : own_a so n = 20 - n := by unfold own_a; rw [if_neg (fun z => z hs)]
    rw [n1 (fun z => z.1 hs), ← hd3, s1 (fun z => z.1 hs), ea]
    have h45 : own_f2 m tb wo cb so sb k n (20 - n) ≠ 45 := by
      by_cases z : n = 0
      · subst z
        rw [show 20 - 0 = 20 from rfl, hlast]
        unfold own_cnt at hc0
        rw [if_neg (fun y => y.1 hs)] at hc0
        by_cases y : tO ≠ 0 ∧ own_dig tb
        · exact own_eq45 y.2
        · rw [if_neg y] at hc0; omega
      · exact own_eq45 (own_midDig (tb := tb) (cb := cb) (so := so) (sb := sb) hm (show n ≤ 19 by omega) hk |>.mpr o3 (20 - n) (by omega) (by omega))
    unfold own_D
    rw [if_neg h45, show own_t tO - (20 - n) = n + (own_t tO - 20) by omega, own_runAdd, show 20 - n + n = 20 by omega, htail, show (0 : Int64) = Int64.ofInt 0 from rfl, hmid]
    have z0 : Int64.ofInt 0 * own_ten n + d1 = d1 := by
      show (0 : Int64) * own_ten n + d1 = d1
      rw [Int64.zero_mul, Int64.zero_add]
    rw [z0]
  · have ea : own_a so n = 19 - n := by unfold own_a; rw [if_pos hs]
    have ef : own_f2 m tb wo cb so sb k n (19 - n) = sb := own_fst hs
    have hrun : own_run (own_f2 m tb wo cb so sb k n) (19 - n) (own_t tO - (19 - n)) 0 = d3 := by
      rw [show own_t tO - (19 - n) = (n + (own_t tO - 20)) + 1 by omega]
      show own_run _ (19 - n + 1) (n + (own_t tO - 20)) (if own_dig (own_f2 m tb wo cb so sb k n (19 - n)) then 0 * 10 + (own_f2 m tb wo cb so sb k n (19 - n) - 48).toInt64 else 0) = _
      rw [ef, own_runAdd, show 19 - n + 1 + n = 20 by omega, show 19 - n + 1 = 20 - n by omega, htail, ← hd3]
      by_cases z : own_dig sb
      · rw [if_pos z, s2 ⟨hs, z⟩, own_chr z]
        rw [show (0 : Int64) * 10 + Int64.ofInt (sb.toInt - 48) = Int64.ofInt (sb.toInt - 48) by rw [Int64.zero_mul, Int64.zero_add], hmid]
      · rw [if_neg z, s1 (fun y => z y.2), show (0 : Int64) = Int64.ofInt 0 from rfl, hmid]
        have z0 : Int64.ofInt 0 * own_ten n + d1 = d1 := by
          show (0 : Int64) * own_ten n + d1 = d1
          rw [Int64.zero_mul, Int64.zero_add]
        rw [z0]
    unfold own_D
    rw [ea, ef, hrun]
    by_cases z : sb = 45
    · rw [if_pos z, n2 ⟨hs, z⟩]
    · rw [if_neg z, n1 (fun y => z y.2)]
end Law
end OwnDec
section OwnFn
theorem own_oInt {a : Nat} (h : a < 2147483648) : (Int32.ofNat a).toInt = a := by
  have := len_toInt (n := a) h
  exact this
theorem own_oNat {a : Nat} (h : a < 2147483648) : (Int32.ofNat a).toNatClampNeg = a := by
  simp only [Int32.toNatClampNeg, own_oInt h]; rfl
theorem own_oLt {a b : Nat} (ha : a < 2147483648) (hb : b < 2147483648) : Int32.ofNat a < Int32.ofNat b ↔ a < b := by
  rw [Int32.lt_iff_toInt_lt, own_oInt ha, own_oInt hb]; omega
theorem own_oEq {a b : Nat} (ha : a < 2147483648) (hb : b < 2147483648) : Int32.ofNat a = Int32.ofNat b ↔ a = b := by
  rw [← Int32.toInt_inj, own_oInt ha, own_oInt hb]; omega
theorem own_oNeg {a : Nat} (ha : a < 2147483648) : ¬ Int32.ofNat a < 0 := by
  have e0 : (0 : Int32).toInt = 0 := rfl
  rw [Int32.lt_iff_toInt_lt, own_oInt ha, e0]; omega
theorem own_oAdd (a b : Nat) : Int32.ofNat a + Int32.ofNat b = Int32.ofNat (a + b) := (Int32.ofNat_add ..).symm
theorem own_oSub {a b : Nat} (h : b ≤ a) (ha : a < 2147483648) : Int32.ofNat a - Int32.ofNat b = Int32.ofNat (a - b) := by
  rw [← Int32.toInt_inj, Int32.toInt_sub, own_oInt ha, own_oInt (by omega), own_oInt (by omega), Int.bmod_eq_of_le (by omega) (by omega)]; omega
variable {p : Program} {l : Launch} {e : Env} {R : Room} {s : State} {m : MethodId} {args : Array Value} {below : List Frame} {meth : Method} {c : Code} {T : State} {locs : List Loc} {cells slots : Nat} {Z : State} {pc : Nat} {Ls : Array Slot} {rest : List Value} {h h' : Heap} {b : Addr} {n : Nat} {f : Nat → Int32} {g : Nat → Int64}
/-- the byte array at b: its length, and what it holds -/
def own_BA (Z : State) (h : Heap) (b : Addr) (n : Nat) (f : Nat → Int32) : Prop := ∃ cl : Cell, Arr Z h b cl .byte ∧ cl.slots.size = n ∧ ∀ i, i < n → cl.slots[i]? = some (.int (f i))
def own_LA (Z : State) (h : Heap) (b : Addr) (n : Nat) (g : Nat → Int64) : Prop := ∃ cl : Cell, Arr Z h b cl .long ∧ cl.slots.size = n ∧ ∀ i, i < n → cl.slots[i]? = some (.long (g i))
theorem own_BA_of {k : ClassId} {z : Int32} {vs : List Value} {dv : Value} (V : Arv Z h b k .byte z vs dv) (hz : z.toNatClampNeg = n) (hf : ∀ i, i < n → vs.getD i dv = .int (f i)) : own_BA Z h b n f := by
  obtain ⟨cl, A, -, S, -, H, -⟩ := V
  exact ⟨cl, A, S.trans hz, fun i hi => by rw [H i (by omega), hf i hi]⟩
theorem own_LA_of {k : ClassId} {z : Int32} {vs : List Value} {dv : Value} (V : Arv Z h b k .long z vs dv) (hz : z.toNatClampNeg = n) (hf : ∀ i, i < n → vs.getD i dv = .long (g i)) : own_LA Z h b n g := by
  obtain ⟨cl, A, -, S, -, H, -⟩ := V
  exact ⟨cl, A, S.trans hz, fun i hi => by rw [H i (by omega), hf i hi]⟩
theorem own_BA.other {a : Addr} {sl : Nat} {v : Value} (V : own_BA Z h b n f) (W : Wr h h' a sl v) (q : b ≠ a) : own_BA Z h' b n f := by obtain ⟨cl, A, r⟩ := V; exact ⟨cl, A.other W q, r⟩
theorem own_LA.other {a : Addr} {sl : Nat} {v : Value} (V : own_LA Z h b n g) (W : Wr h h' a sl v) (q : b ≠ a) : own_LA Z h' b n g := by obtain ⟨cl, A, r⟩ := V; exact ⟨cl, A.other W q, r⟩
theorem own_BA.keep {ws : List Addr} (V : own_BA Z h b n f) (K : Keep h h' ws) (q : b ∉ ws) : own_BA Z h' b n f := by obtain ⟨cl, A, r⟩ := V; exact ⟨cl, ⟨K.2.1 b cl A.1 q, A.2⟩, r⟩
theorem own_LA.keep {ws : List Addr} (V : own_LA Z h b n g) (K : Keep h h' ws) (q : b ∉ ws) : own_LA Z h' b n g := by obtain ⟨cl, A, r⟩ := V; exact ⟨cl, ⟨K.2.1 b cl A.1 q, A.2⟩, r⟩
theorem own_BA.ext (V : own_BA Z h b n f) (E : Ext h h') : own_BA Z h' b n f := by obtain ⟨cl, A, r⟩ := V; exact ⟨cl, A.ext E, r⟩
theorem own_LA.ext (V : own_LA Z h b n g) (E : Ext h h') : own_LA Z h' b n g := by obtain ⟨cl, A, r⟩ := V; exact ⟨cl, A.ext E, r⟩
theorem own_oIn {cl : Cell} {i : Nat} (hs : cl.slots.size = n) (hn : n < 2147483648) (hi : i < n) : ¬ (Int32.ofNat i < 0 ∨ cl.slots.size ≤ (Int32.ofNat i).toNatClampNeg) := fun q => by
  rcases q with q | q
  · exact own_oNeg (by omega) q
  · rw [own_oNat (by omega)] at q; omega
theorem own_ldBA (X : Stand p l e R s m args below meth c T locs cells slots) (hx : p.tables.exec = Jvm.exec) (hZ : Z.Warmed39 s.vm) (eT : T.heap = h) (V : own_BA Z h b n f) (hn : n < 2147483648) (i : Nat) (hi : i < n) (hd : decode c.code pc = .ok (.baload, 1)) :
    ∀ t, Steps p.tables e below (T.setTop (mkF m (pc + 1) Ls (.int (f i) :: rest))) t → Steps p.tables e below (T.setTop (mkF m pc Ls (.int (Int32.ofNat i) :: .ref b :: rest))) t := by
  obtain ⟨cl, A, S, H⟩ := V
  intro t k
  exact X.baloadBytes hx (j := Int32.ofNat i) (v := .int (f i)) (by rw [eT]; exact A.1) (State.isArrayOf_alike hZ.alike A.2.1) A.2.2 (own_oIn S hn hi) (by rw [own_oNat (by omega)]; exact H i hi) (g := mkF m pc Ls (.int (Int32.ofNat i) :: .ref b :: rest)) rfl rfl hd t k
theorem own_ldLA (X : Stand p l e R s m args below meth c T locs cells slots) (hx : p.tables.exec = Jvm.exec) (hZ : Z.Warmed39 s.vm) (eT : T.heap = h) (V : own_LA Z h b n g) (hn : n < 2147483648) (i : Nat) (hi : i < n) (hd : decode c.code pc = .ok (.laload, 1)) :
    ∀ t, Steps p.tables e below (T.setTop (mkF m (pc + 1) Ls (.long (g i) :: rest))) t → Steps p.tables e below (T.setTop (mkF m pc Ls (.int (Int32.ofNat i) :: .ref b :: rest))) t := by
  obtain ⟨cl, A, S, H⟩ := V
  intro t k
  exact X.laload hx (j := Int32.ofNat i) (v := .long (g i)) (by rw [eT]; exact A.1) (State.isArrayOf_alike hZ.alike A.2.1) A.2.2 (own_oIn S hn hi) (by rw [own_oNat (by omega)]; exact H i hi) (g := mkF m pc Ls (.int (Int32.ofNat i) :: .ref b :: rest)) rfl rfl hd t k
theorem own_stBA (X : Stand p l e R s m args below meth c T locs cells slots) (hx : p.tables.exec = Jvm.exec) (hZ : Z.Warmed39 s.vm) (eT : T.heap = h) (V : own_BA Z h b n f) (hn : n < 2147483648) (i : Nat) (hi : i < n) {y : Int32} (hy : y.toInt8.toInt32 = y) {f' : Nat → Int32} (hf : ∀ x, f' x = if x = i then y else f x) {n0 : Nat} (N : Fr n0 locs) (g : n0 ≤ b) (hd : decode c.code pc = .ok (.bastore, 1)) :
    ∃ T' h' L', Stand p l e R s m args below meth c T' L' cells slots ∧ Fr n0 L' ∧ T'.heap = h' ∧ (∃ sl v, Wr h h' b sl v) ∧ own_BA Z h' b n f' ∧ ∀ t, Steps p.tables e below (T'.setTop (mkF m (pc + 1) Ls rest)) t → Steps p.tables e below (T.setTop (mkF m pc Ls (.int y :: .int (Int32.ofNat i) :: .ref b :: rest))) t := by
  obtain ⟨cl, A, S, H⟩ := V
  obtain ⟨T', h', X', e', W', st'⟩ := stB X hx hZ eT A (j := Int32.ofNat i) (own_oIn S hn hi) (g := mkF m pc Ls (.int y :: .int (Int32.ofNat i) :: .ref b :: rest)) rfl rfl hd
  have hnar : nar .byte y = y := hy
  rw [hnar, own_oNat (by omega)] at W'
  refine ⟨T', h', _, X', Fr.snoc X' N g, e', ⟨_, _, W'⟩, ⟨_, A.same W', ?_, fun x hx => ?_⟩, st'⟩
  · simp [Cell.setSlot, S]
  · rw [hf x]
    by_cases q : x = i
    · subst q; rw [if_pos rfl]; simp [Cell.setSlot, S, hx]
    · rw [if_neg q]
      simp only [Cell.setSlot]
      rw [Array.getElem?_setIfInBounds_ne (Ne.symm q)]
      exact H x hx
end OwnFn
section OwnLong
variable {Z : State} {args : Array Value} {C n d : String} {ac : Addr} {cc : Cell}
theorem own_cacheEl (ev : (Term.static C n d).eval args Z none [] Z = some (.ref ac)) (A : Arr Z Z.heap ac cc (.object "java/lang/Long"))
    (hall : (Jvm.Cond.all (.static C n d) (.and (.exactly (.elem (.static C n d) (.index 0)) "java/lang/Long") (.eq (.field (.elem (.static C n d) (.index 0)) "java/lang/Long" "value" "J") (.op1 .i2l (.sub (.index 0) (.int 128)))))).value args Z none Z [] = some true) (hs : cc.slots.size = 256) :
    ∀ i : Nat, i < 256 → ∃ u : Addr, cc.slots[i]? = some (.ref u) ∧ Exa Z Z.heap u "java/lang/Long" ∧ Fld Z Z.heap u "java/lang/Long" "value" "J" (.long (Int32.ofNat i - 128).toInt64) := by
  intro i hi
  have h := Cond.all_elim ev (A.fin (Vm.Alike.refl _)) hall i (by omega)
  obtain ⟨h1, h2⟩ := and_e h
  obtain ⟨u, eu⟩ := exa_v h1
  obtain ⟨a', j, cell', q1, q2, q3, q4, q5⟩ := Term.elem_spec eu
  have q1' : (Term.static C n d).eval args Z none [] Z = some (.ref a') := q1
  cases q1'.symm.trans ev
  have q3' := q3.symm.trans (A.fin (Vm.Alike.refl _))
  cases q3'
  have ej : j = Int32.ofNat i := by
    have : (Term.index 0).eval args Z none [i] Z = some (.int (Int32.ofNat i)) := rfl
    cases q2.symm.trans this
    rfl
  subst ej
  have en : (Int32.ofNat i).toNatClampNeg = i := by
    have := len_toInt (n := i) (by omega)
    simp only [Int32.toNatClampNeg]
    rw [show (Int32.ofNat i).toInt = i from this]
    rfl
  rw [en] at q5
  refine ⟨u, q5, ?_, ?_⟩
  · obtain ⟨b', c', cell, k, e1, e2, e3, e4, e5, rfl, e7⟩ := Cond.exactly_spec (beq_iff_eq.mpr h1)
    cases eu.symm.trans e1
    exact ⟨cell, k, e3, e2, e4, e5, e7⟩
  · obtain ⟨x, y, r1, r2, r3, r4⟩ := cmp_v (Or.inl h2)
    have r2' : (Term.op1 .i2l (.sub (.index 0) (.int 128))).eval args Z none [i] Z = some (.long (Int32.ofNat i - 128).toInt64) := rfl
    cases r2.symm.trans r2'
    have r1' := (fld_at eu).symm.trans r1
    have ex : x = .long (Int32.ofNat i - 128).toInt64 := by
      simp only [Cond.value, r1, r2'] at h2
      cases x <;> simp_all [Kin]
    subst ex
    exact Fld.start r1'
end OwnLong
theorem own_size {n : Nat} (h1 : n < 2 ^ 31) (h2 : n.toInt32 = 256) : n = 256 := by
  have h3 := len_toInt h1
  rw [h2] at h3
  have : (256 : Int32).toInt = 256 := rfl
  omega
theorem own_cidx (q : Int64) (h1 : ¬ q < (-128 : Int64)) (h2 : ¬ (127 : Int64) < q) : ∃ c : Nat, c < 256 ∧ q.toInt32 + (128 : Int32) = Int32.ofNat c ∧ (Int32.ofNat c - 128).toInt64 = q := by
  rw [Int64.lt_iff_toInt_lt] at h1 h2
  have e1 : (-128 : Int64).toInt = -128 := rfl
  have e2 : (127 : Int64).toInt = 127 := rfl
  have e3 : q.toInt32.toInt = q.toInt := by rw [Int64.toInt_toInt32]; exact Int.bmod_eq_of_le (by omega) (by omega)
  have e5 : (128 : Int32).toInt = 128 := rfl
  refine ⟨(q.toInt + 128).toNat, by omega, ?_, ?_⟩
  · rw [← Int32.toInt_inj, own_oInt (by omega), Int32.toInt_add, e3, e5, Int.bmod_eq_of_le (by omega) (by omega)]; omega
  · rw [← Int64.toInt_inj, Int32.toInt_toInt64, Int32.toInt_sub, own_oInt (by omega), e5, Int.bmod_eq_of_le (by omega) (by omega)]; omega
theorem own_tenNe {i : Nat} (h : i ≤ 18) : own_ten i ≠ 0 := fun q => by
  have h1 := own_tenInt h
  rw [q] at h1
  have h2 := own_pow_pos i
  have e0 : (0 : Int64).toInt = 0 := rfl
  omega
theorem own_putList (m : Int64) : ∀ i, i < 21 → ([(.int (0 : Int32)), (.int (own_dg m (own_ten 18))), (.int (own_dg m (own_ten 17))), (.int (own_dg m (own_ten 16))), (.int (own_dg m (own_ten 15))), (.int (own_dg m (own_ten 14))), (.int (own_dg m (own_ten 13))), (.int (own_dg m (own_ten 12))), (.int (own_dg m (own_ten 11))), (.int (own_dg m (own_ten 10))), (.int (own_dg m (own_ten 9))), (.int (own_dg m (own_ten 8))), (.int (own_dg m (own_ten 7))), (.int (own_dg m (own_ten 6))), (.int (own_dg m (own_ten 5))), (.int (own_dg m (own_ten 4))), (.int (own_dg m (own_ten 3))), (.int (own_dg m (own_ten 2))), (.int (own_dg m (own_ten 1))), (.int (own_dg m (own_ten 0))), (.int (0 : Int32))] : List Value).getD i (.int (0 : Int32)) = .int (own_f0 m i) := fun i hi => by
  match i, hi with
  | 0, _ => rfl
  | 1, _ => rfl
  | 2, _ => rfl
  | 3, _ => rfl
  | 4, _ => rfl
  | 5, _ => rfl
  | 6, _ => rfl
  | 7, _ => rfl
  | 8, _ => rfl
  | 9, _ => rfl
  | 10, _ => rfl
  | 11, _ => rfl
  | 12, _ => rfl
  | 13, _ => rfl
  | 14, _ => rfl
  | 15, _ => rfl
  | 16, _ => rfl
  | 17, _ => rfl
  | 18, _ => rfl
  | 19, _ => rfl
  | 20, _ => rfl
  | z + 21, hz => exact absurd hz (by omega)
theorem own_tenList : ∀ i, i < 19 → ([(.long (1 : Int64)), (.long (10 : Int64)), (.long (100 : Int64)), (.long (1000 : Int64)), (.long (10000 : Int64)), (.long (100000 : Int64)), (.long (1000000 : Int64)), (.long (10000000 : Int64)), (.long (100000000 : Int64)), (.long (1000000000 : Int64)), (.long (10000000000 : Int64)), (.long (100000000000 : Int64)), (.long (1000000000000 : Int64)), (.long (10000000000000 : Int64)), (.long (100000000000000 : Int64)), (.long (1000000000000000 : Int64)), (.long (10000000000000000 : Int64)), (.long (100000000000000000 : Int64)), (.long (1000000000000000000 : Int64))] : List Value).getD i (.long (0 : Int64)) = .long (own_ten i) := fun i hi => by
  match i, hi with
  | 0, _ => exact congrArg Value.long (by decide : (1 : Int64) = own_ten 0)
  | 1, _ => exact congrArg Value.long (by decide : (10 : Int64) = own_ten 1)
  | 2, _ => exact congrArg Value.long (by decide : (100 : Int64) = own_ten 2)
  | 3, _ => exact congrArg Value.long (by decide : (1000 : Int64) = own_ten 3)
  | 4, _ => exact congrArg Value.long (by decide : (10000 : Int64) = own_ten 4)
  | 5, _ => exact congrArg Value.long (by decide : (100000 : Int64) = own_ten 5)
  | 6, _ => exact congrArg Value.long (by decide : (1000000 : Int64) = own_ten 6)
  | 7, _ => exact congrArg Value.long (by decide : (10000000 : Int64) = own_ten 7)
  | 8, _ => exact congrArg Value.long (by decide : (100000000 : Int64) = own_ten 8)
  | 9, _ => exact congrArg Value.long (by decide : (1000000000 : Int64) = own_ten 9)
  | 10, _ => exact congrArg Value.long (by decide : (10000000000 : Int64) = own_ten 10)
  | 11, _ => exact congrArg Value.long (by decide : (100000000000 : Int64) = own_ten 11)
  | 12, _ => exact congrArg Value.long (by decide : (1000000000000 : Int64) = own_ten 12)
  | 13, _ => exact congrArg Value.long (by decide : (10000000000000 : Int64) = own_ten 13)
  | 14, _ => exact congrArg Value.long (by decide : (100000000000000 : Int64) = own_ten 14)
  | 15, _ => exact congrArg Value.long (by decide : (1000000000000000 : Int64) = own_ten 15)
  | 16, _ => exact congrArg Value.long (by decide : (10000000000000000 : Int64) = own_ten 16)
  | 17, _ => exact congrArg Value.long (by decide : (100000000000000000 : Int64) = own_ten 17)
  | 18, _ => exact congrArg Value.long (by decide : (1000000000000000000 : Int64) = own_ten 18)
  | z + 19, hz => exact absurd hz (by omega)
theorem own_ite0 {P : Prop} [Decidable P] : (if P then (1 : Int32) else 0) = 0 ↔ ¬ P := by
  by_cases h : P
  · rw [if_pos h]; exact ⟨fun q => absurd q (by decide), fun q => absurd h q⟩
  · rw [if_neg h]; exact ⟨fun _ => h, fun _ => rfl⟩
theorem own_allS {f : Nat → Int32} {q i : Nat} (g : ∀ j, q ≤ j → j < i → own_dig (f j)) (h : own_dig (f i)) : ∀ j, q ≤ j → j < i + 1 → own_dig (f j) := fun j h1 h2 => by
  by_cases z : j = i
  · rw [z]; exact h
  · exact g j h1 (by omega)
theorem own_dig46 : ¬ own_dig 46 := by decide
theorem own_nG {f : Nat → Int32} {q i t : Nat} (g4 : i = t ∨ ¬ own_dig (f i)) (y : (∀ j, q ≤ j → j < t → own_dig (f j)) ∧ q < t ∧ t - q ≤ 18) (h : q ≤ i ∧ i ≤ t ∧ (i = t → (i = q ∨ 18 < i - q ∨ False))) : False := by
  obtain ⟨y1, y2, y3⟩ := y
  obtain ⟨h1, h2, h3⟩ := h
  by_cases z : i = t
  · rcases h3 z with w | w | w
    · omega
    · omega
    · exact w
  · rcases g4 with g | g
    · exact z g
    · exact g (y1 i h1 (by omega))
theorem own_GLt {f : Nat → Int32} {a t : Nat} (h : own_G f a t) : a < t := by
  have h1 := h.2.1
  unfold own_st at h1
  split at h1 <;> omega
theorem own_mask64 (x : Int64) : 0 ≤ (x &&& (9223372036854775807 : Int64)).toInt := by
  have h : (x &&& (9223372036854775807 : Int64)).toBitVec.msb = false := by
    show (x.toBitVec &&& 9223372036854775807#64).msb = false
    rw [BitVec.msb_and]
    have : (9223372036854775807#64).msb = false := by decide
    rw [this, Bool.and_false]
  have h2 : (x &&& (9223372036854775807 : Int64)).toInt = (x &&& (9223372036854775807 : Int64)).toBitVec.toInt := rfl
  rw [h2, BitVec.toInt_eq_toNat_of_msb h]
  omega
theorem own_and31 (x : Int32) : 0 ≤ (x &&& (31 : Int32)).toInt := by
  have h : (x &&& (31 : Int32)).toBitVec.msb = false := by
    show (x.toBitVec &&& 31#32).msb = false
    rw [BitVec.msb_and]
    have : (31#32).msb = false := by decide
    rw [this, Bool.and_false]
  have h2 : (x &&& (31 : Int32)).toInt = (x &&& (31 : Int32)).toBitVec.toInt := rfl
  rw [h2, BitVec.toInt_eq_toNat_of_msb h]
  omega
theorem own_remO (x : Int32) {d : Nat} (hd : 0 < d) (hb : d < 2147483648) : ∃ r : Nat, r < d ∧ (x &&& (31 : Int32)) % Int32.ofNat d = Int32.ofNat r := by
  have h0 := own_and31 x
  have h1 := Int.tmod_nonneg (d : Int) h0
  have h2 := Int.tmod_lt_of_pos (x &&& (31 : Int32)).toInt (show (0 : Int) < d by omega)
  refine ⟨((x &&& (31 : Int32)).toInt.tmod d).toNat, by omega, ?_⟩
  rw [← Int32.toInt_inj, Int32.toInt_mod, own_oInt hb, own_oInt (by omega)]; omega
theorem own_rem20 (x : Int32) : ∃ n : Nat, n ≤ 19 ∧ (x &&& (31 : Int32)) % (20 : Int32) = Int32.ofNat n := by
  obtain ⟨r, h1, h2⟩ := own_remO x (d := 20) (by decide) (by decide)
  exact ⟨r, by omega, h2⟩
theorem own_remN (x : Int32) (d : Nat) (hd : 0 < d) (hb : d < 2147483648) : ∃ r : Nat, r < d ∧ (((x.toUInt32 >>> ((9 : Int32) &&& 31).toUInt32).toInt32) &&& (31 : Int32)) % (Int32.ofNat d) = Int32.ofNat r := own_remO _ hd hb
theorem own_oNe0 {a : Nat} (h : 0 < a) (hb : a < 2147483648) : Int32.ofNat a ≠ 0 := fun q => by
  have := (own_oEq (b := 0) hb (by decide)).mp q
  omega
theorem own_jb {P : Prop} {b x y : Int32} (ht : P → b = x) (hf : ¬ P → b = y) (hx : x.toInt8.toInt32 = x) (hy : y.toInt8.toInt32 = y) : b.toInt8.toInt32 = b := by
  by_cases q : P
  · rw [ht q]; exact hx
  · rw [hf q]; exact hy
theorem own_b8 (x : Int32) : x.toInt8.toInt32.toInt8.toInt32 = x.toInt8.toInt32 := by simp
theorem own_BA.cong {Z : State} {h : Heap} {b : Addr} {n : Nat} {f f' : Nat → Int32} (V : own_BA Z h b n f) (q : ∀ i, f' i = f i) : own_BA Z h b n f' := by
  obtain ⟨cl, A, S, H⟩ := V
  exact ⟨cl, A, S, fun i hi => by rw [q i]; exact H i hi⟩
section Fns
variable {m : Int64} {tb wo cb so sb : Int32} {k n : Nat}
theorem own_f1W (h : ¬ wo = 0) : ∀ x, own_f1 m tb wo cb k x = if x = k then cb else (fun x => if x = 20 then tb else own_f0 m x) x := fun x => by
  unfold own_f1
  by_cases q : x = k
  · rw [if_pos ⟨h, q⟩, if_pos q]
  · rw [if_neg (fun z => q z.2), if_neg q]
theorem own_f1N (h : wo = 0) : ∀ x, own_f1 m tb wo cb k x = (fun x => if x = 20 then tb else own_f0 m x) x := fun x => by
  unfold own_f1
  rw [if_neg (fun z => z.1 h)]
theorem own_f2S (h : ¬ so = 0) (hn : n ≤ 19) : ∀ x, own_f2 m tb wo cb so sb k n x = if x = 20 - n - 1 then sb else own_f1 m tb wo cb k x := fun x => by
  unfold own_f2
  by_cases q : x = 19 - n
  · rw [if_pos ⟨h, q⟩, if_pos (by omega)]
  · rw [if_neg (fun z => q z.2), if_neg (by omega)]
theorem own_f2N (h : so = 0) : ∀ x, own_f2 m tb wo cb so sb k n x = own_f1 m tb wo cb k x := fun x => by
  unfold own_f2
  rw [if_neg (fun z => z.1 h)]
end Fns
theorem pn_com_example_gridtally_gridtally_core_DecimalsIntegerPinLaw : plainName "com/example/gridtally/gridtally/core/DecimalsIntegerPinLaw" = true := by first | (simp [plainName, overriddenIn]; done) | decide +kernel
theorem ef_9 (m : MethodId) (x0 : Int32) : entryFrame m #[(.int x0)] 1 = mkF m 0 #[.val (.int x0)] [] := by first | (simp [entryFrame, mkF, argsToLocals, Value.category]; done) | rfl
theorem d9_0 : decode method_3_code 0 = .ok (.iload_n 0, 1) := by decide +kernel
theorem d9_1 : decode method_3_code 1 = .ok (.bipush 48, 2) := by decide +kernel
theorem d9_3 : decode method_3_code 3 = .ok (.if_icmp .lt 13, 3) := by decide +kernel
theorem d9_16 : decode method_3_code 16 = .ok (.iconst 0, 1) := by decide +kernel
theorem d9_17 : decode method_3_code 17 = .ok (.ireturn, 1) := by decide +kernel
theorem d9_6 : decode method_3_code 6 = .ok (.iload_n 0, 1) := by decide +kernel
theorem d9_7 : decode method_3_code 7 = .ok (.bipush 57, 2) := by decide +kernel
theorem d9_9 : decode method_3_code 9 = .ok (.if_icmp .gt 7, 3) := by decide +kernel
theorem d9_12 : decode method_3_code 12 = .ok (.iconst 1, 1) := by decide +kernel
theorem d9_13 : decode method_3_code 13 = .ok (.goto 4, 3) := by decide +kernel
theorem pn_com_example_gridtally_gridtally_core_Decimals : plainName "com/example/gridtally/gridtally/core/Decimals" = true := by first | (simp [plainName, overriddenIn]; done) | decide +kernel
theorem ef_5 (m : MethodId) (x0 : Int32) : entryFrame m #[(.int x0)] 1 = mkF m 0 #[.val (.int x0)] [] := by first | (simp [entryFrame, mkF, argsToLocals, Value.category]; done) | rfl
theorem d5_0 : decode prog_20_method_9_code 0 = .ok (.iload_n 0, 1) := by decide +kernel
theorem d5_1 : decode prog_20_method_9_code 1 = .ok (.bipush 48, 2) := by decide +kernel
theorem d5_3 : decode prog_20_method_9_code 3 = .ok (.if_icmp .lt 13, 3) := by decide +kernel
theorem d5_16 : decode prog_20_method_9_code 16 = .ok (.iconst 0, 1) := by decide +kernel
theorem d5_17 : decode prog_20_method_9_code 17 = .ok (.ireturn, 1) := by decide +kernel
theorem d5_6 : decode prog_20_method_9_code 6 = .ok (.iload_n 0, 1) := by decide +kernel
theorem d5_7 : decode prog_20_method_9_code 7 = .ok (.bipush 57, 2) := by decide +kernel
theorem d5_9 : decode prog_20_method_9_code 9 = .ok (.if_icmp .gt 7, 3) := by decide +kernel
theorem d5_12 : decode prog_20_method_9_code 12 = .ok (.iconst 1, 1) := by decide +kernel
theorem d5_13 : decode prog_20_method_9_code 13 = .ok (.goto 4, 3) := by decide +kernel
theorem ef_2 (m : MethodId) (x0 : Int64) (x1 : Int64) : entryFrame m #[(.long x0), (.long x1)] 4 = mkF m 0 #[.val (.long x0), .second, .val (.long x1), .second] [] := by first | (simp [entryFrame, mkF, argsToLocals, Value.category]; done) | rfl
theorem d2_0 : decode method_4_code 0 = .ok (.ldc2_w 67, 3) := by decide +kernel
theorem d2_3 : decode method_4_code 3 = .ok (.lload_n 0, 1) := by decide +kernel
theorem d2_4 : decode method_4_code 4 = .ok (.lload_n 2, 1) := by decide +kernel
theorem d2_5 : decode method_4_code 5 = .ok (.ldiv, 1) := by decide +kernel
theorem d2_6 : decode method_4_code 6 = .ok (.ldc2_w 7, 3) := by decide +kernel
theorem d2_9 : decode method_4_code 9 = .ok (.lrem, 1) := by decide +kernel
theorem d2_10 : decode method_4_code 10 = .ok (.ladd, 1) := by decide +kernel
theorem d2_11 : decode method_4_code 11 = .ok (.l2i, 1) := by decide +kernel
theorem d2_12 : decode method_4_code 12 = .ok (.i2b, 1) := by decide +kernel
theorem d2_13 : decode method_4_code 13 = .ok (.ireturn, 1) := by decide +kernel
theorem ef_1 (m : MethodId) (x0 : Addr) (x1 : Int64) (x2 : Addr) : entryFrame m #[(.ref x0), (.long x1), (.ref x2)] 4 = mkF m 0 #[.val (.ref x0), .val (.long x1), .second, .val (.ref x2)] [] := by first | (simp [entryFrame, mkF, argsToLocals, Value.category]; done) | rfl
theorem d1_0 : decode method_5_code 0 = .ok (.aload_n 0, 1) := by decide +kernel
theorem d1_1 : decode method_5_code 1 = .ok (.iconst 1, 1) := by decide +kernel
theorem d1_2 : decode method_5_code 2 = .ok (.lload_n 1, 1) := by decide +kernel
theorem d1_3 : decode method_5_code 3 = .ok (.aload_n 3, 1) := by decide +kernel
theorem d1_4 : decode method_5_code 4 = .ok (.bipush 18, 2) := by decide +kernel
theorem d1_6 : decode method_5_code 6 = .ok (.laload, 1) := by decide +kernel
theorem d1_7 : decode method_5_code 7 = .ok (.invokestatic 69, 3) := by decide +kernel
theorem pd_6 : parseMethodDescriptor "(JJ)B" = some ⟨[.long, .long], some .byte⟩ := by decide +kernel
theorem d1_10 : decode method_5_code 10 = .ok (.bastore, 1) := by decide +kernel
theorem d1_11 : decode method_5_code 11 = .ok (.aload_n 0, 1) := by decide +kernel
theorem d1_12 : decode method_5_code 12 = .ok (.iconst 2, 1) := by decide +kernel
theorem d1_13 : decode method_5_code 13 = .ok (.lload_n 1, 1) := by decide +kernel
theorem d1_14 : decode method_5_code 14 = .ok (.aload_n 3, 1) := by decide +kernel
theorem d1_15 : decode method_5_code 15 = .ok (.bipush 17, 2) := by decide +kernel
theorem d1_17 : decode method_5_code 17 = .ok (.laload, 1) := by decide +kernel
theorem d1_18 : decode method_5_code 18 = .ok (.invokestatic 69, 3) := by decide +kernel
theorem d1_21 : decode method_5_code 21 = .ok (.bastore, 1) := by decide +kernel
theorem d1_22 : decode method_5_code 22 = .ok (.aload_n 0, 1) := by decide +kernel
theorem d1_23 : decode method_5_code 23 = .ok (.iconst 3, 1) := by decide +kernel
theorem d1_24 : decode method_5_code 24 = .ok (.lload_n 1, 1) := by decide +kernel
theorem d1_25 : decode method_5_code 25 = .ok (.aload_n 3, 1) := by decide +kernel
theorem d1_26 : decode method_5_code 26 = .ok (.bipush 16, 2) := by decide +kernel
theorem d1_28 : decode method_5_code 28 = .ok (.laload, 1) := by decide +kernel
theorem d1_29 : decode method_5_code 29 = .ok (.invokestatic 69, 3) := by decide +kernel
theorem d1_32 : decode method_5_code 32 = .ok (.bastore, 1) := by decide +kernel
theorem d1_33 : decode method_5_code 33 = .ok (.aload_n 0, 1) := by decide +kernel
theorem d1_34 : decode method_5_code 34 = .ok (.iconst 4, 1) := by decide +kernel
theorem d1_35 : decode method_5_code 35 = .ok (.lload_n 1, 1) := by decide +kernel
theorem d1_36 : decode method_5_code 36 = .ok (.aload_n 3, 1) := by decide +kernel
theorem d1_37 : decode method_5_code 37 = .ok (.bipush 15, 2) := by decide +kernel
theorem d1_39 : decode method_5_code 39 = .ok (.laload, 1) := by decide +kernel
theorem d1_40 : decode method_5_code 40 = .ok (.invokestatic 69, 3) := by decide +kernel
theorem d1_43 : decode method_5_code 43 = .ok (.bastore, 1) := by decide +kernel
theorem d1_44 : decode method_5_code 44 = .ok (.aload_n 0, 1) := by decide +kernel
theorem d1_45 : decode method_5_code 45 = .ok (.iconst 5, 1) := by decide +kernel
theorem d1_46 : decode method_5_code 46 = .ok (.lload_n 1, 1) := by decide +kernel
theorem d1_47 : decode method_5_code 47 = .ok (.aload_n 3, 1) := by decide +kernel
theorem d1_48 : decode method_5_code 48 = .ok (.bipush 14, 2) := by decide +kernel
theorem d1_50 : decode method_5_code 50 = .ok (.laload, 1) := by decide +kernel
theorem d1_51 : decode method_5_code 51 = .ok (.invokestatic 69, 3) := by decide +kernel
theorem d1_54 : decode method_5_code 54 = .ok (.bastore, 1) := by decide +kernel
theorem d1_55 : decode method_5_code 55 = .ok (.aload_n 0, 1) := by decide +kernel
theorem d1_56 : decode method_5_code 56 = .ok (.bipush 6, 2) := by decide +kernel
theorem d1_58 : decode method_5_code 58 = .ok (.lload_n 1, 1) := by decide +kernel
theorem d1_59 : decode method_5_code 59 = .ok (.aload_n 3, 1) := by decide +kernel
theorem d1_60 : decode method_5_code 60 = .ok (.bipush 13, 2) := by decide +kernel
theorem d1_62 : decode method_5_code 62 = .ok (.laload, 1) := by decide +kernel
theorem d1_63 : decode method_5_code 63 = .ok (.invokestatic 69, 3) := by decide +kernel
theorem d1_66 : decode method_5_code 66 = .ok (.bastore, 1) := by decide +kernel
theorem d1_67 : decode method_5_code 67 = .ok (.aload_n 0, 1) := by decide +kernel
theorem d1_68 : decode method_5_code 68 = .ok (.bipush 7, 2) := by decide +kernel
theorem d1_70 : decode method_5_code 70 = .ok (.lload_n 1, 1) := by decide +kernel
theorem d1_71 : decode method_5_code 71 = .ok (.aload_n 3, 1) := by decide +kernel
theorem d1_72 : decode method_5_code 72 = .ok (.bipush 12, 2) := by decide +kernel
theorem d1_74 : decode method_5_code 74 = .ok (.laload, 1) := by decide +kernel
theorem d1_75 : decode method_5_code 75 = .ok (.invokestatic 69, 3) := by decide +kernel
theorem d1_78 : decode method_5_code 78 = .ok (.bastore, 1) := by decide +kernel
theorem d1_79 : decode method_5_code 79 = .ok (.aload_n 0, 1) := by decide +kernel
theorem d1_80 : decode method_5_code 80 = .ok (.bipush 8, 2) := by decide +kernel
theorem d1_82 : decode method_5_code 82 = .ok (.lload_n 1, 1) := by decide +kernel
theorem d1_83 : decode method_5_code 83 = .ok (.aload_n 3, 1) := by decide +kernel
theorem d1_84 : decode method_5_code 84 = .ok (.bipush 11, 2) := by decide +kernel
theorem d1_86 : decode method_5_code 86 = .ok (.laload, 1) := by decide +kernel
theorem d1_87 : decode method_5_code 87 = .ok (.invokestatic 69, 3) := by decide +kernel
theorem d1_90 : decode method_5_code 90 = .ok (.bastore, 1) := by decide +kernel
theorem d1_91 : decode method_5_code 91 = .ok (.aload_n 0, 1) := by decide +kernel
theorem d1_92 : decode method_5_code 92 = .ok (.bipush 9, 2) := by decide +kernel
theorem d1_94 : decode method_5_code 94 = .ok (.lload_n 1, 1) := by decide +kernel
theorem d1_95 : decode method_5_code 95 = .ok (.aload_n 3, 1) := by decide +kernel
theorem d1_96 : decode method_5_code 96 = .ok (.bipush 10, 2) := by decide +kernel
theorem d1_98 : decode method_5_code 98 = .ok (.laload, 1) := by decide +kernel
theorem d1_99 : decode method_5_code 99 = .ok (.invokestatic 69, 3) := by decide +kernel
theorem d1_102 : decode method_5_code 102 = .ok (.bastore, 1) := by decide +kernel
theorem d1_103 : decode method_5_code 103 = .ok (.aload_n 0, 1) := by decide +kernel
theorem d1_104 : decode method_5_code 104 = .ok (.bipush 10, 2) := by decide +kernel
theorem d1_106 : decode method_5_code 106 = .ok (.lload_n 1, 1) := by decide +kernel
theorem d1_107 : decode method_5_code 107 = .ok (.aload_n 3, 1) := by decide +kernel
theorem d1_108 : decode method_5_code 108 = .ok (.bipush 9, 2) := by decide +kernel
theorem d1_110 : decode method_5_code 110 = .ok (.laload, 1) := by decide +kernel
theorem d1_111 : decode method_5_code 111 = .ok (.invokestatic 69, 3) := by decide +kernel
theorem d1_114 : decode method_5_code 114 = .ok (.bastore, 1) := by decide +kernel
theorem d1_115 : decode method_5_code 115 = .ok (.aload_n 0, 1) := by decide +kernel
theorem d1_116 : decode method_5_code 116 = .ok (.bipush 11, 2) := by decide +kernel
theorem d1_118 : decode method_5_code 118 = .ok (.lload_n 1, 1) := by decide +kernel
theorem d1_119 : decode method_5_code 119 = .ok (.aload_n 3, 1) := by decide +kernel
theorem d1_120 : decode method_5_code 120 = .ok (.bipush 8, 2) := by decide +kernel
theorem d1_122 : decode method_5_code 122 = .ok (.laload, 1) := by decide +kernel
theorem d1_123 : decode method_5_code 123 = .ok (.invokestatic 69, 3) := by decide +kernel
theorem d1_126 : decode method_5_code 126 = .ok (.bastore, 1) := by decide +kernel
theorem d1_127 : decode method_5_code 127 = .ok (.aload_n 0, 1) := by decide +kernel
theorem d1_128 : decode method_5_code 128 = .ok (.bipush 12, 2) := by decide +kernel
theorem d1_130 : decode method_5_code 130 = .ok (.lload_n 1, 1) := by decide +kernel
theorem d1_131 : decode method_5_code 131 = .ok (.aload_n 3, 1) := by decide +kernel
theorem d1_132 : decode method_5_code 132 = .ok (.bipush 7, 2) := by decide +kernel
theorem d1_134 : decode method_5_code 134 = .ok (.laload, 1) := by decide +kernel
theorem d1_135 : decode method_5_code 135 = .ok (.invokestatic 69, 3) := by decide +kernel
theorem d1_138 : decode method_5_code 138 = .ok (.bastore, 1) := by decide +kernel
theorem d1_139 : decode method_5_code 139 = .ok (.aload_n 0, 1) := by decide +kernel
theorem d1_140 : decode method_5_code 140 = .ok (.bipush 13, 2) := by decide +kernel
theorem d1_142 : decode method_5_code 142 = .ok (.lload_n 1, 1) := by decide +kernel
theorem d1_143 : decode method_5_code 143 = .ok (.aload_n 3, 1) := by decide +kernel
theorem d1_144 : decode method_5_code 144 = .ok (.bipush 6, 2) := by decide +kernel
theorem d1_146 : decode method_5_code 146 = .ok (.laload, 1) := by decide +kernel
theorem d1_147 : decode method_5_code 147 = .ok (.invokestatic 69, 3) := by decide +kernel
theorem d1_150 : decode method_5_code 150 = .ok (.bastore, 1) := by decide +kernel
theorem d1_151 : decode method_5_code 151 = .ok (.aload_n 0, 1) := by decide +kernel
theorem d1_152 : decode method_5_code 152 = .ok (.bipush 14, 2) := by decide +kernel
theorem d1_154 : decode method_5_code 154 = .ok (.lload_n 1, 1) := by decide +kernel
theorem d1_155 : decode method_5_code 155 = .ok (.aload_n 3, 1) := by decide +kernel
theorem d1_156 : decode method_5_code 156 = .ok (.iconst 5, 1) := by decide +kernel
theorem d1_157 : decode method_5_code 157 = .ok (.laload, 1) := by decide +kernel
theorem d1_158 : decode method_5_code 158 = .ok (.invokestatic 69, 3) := by decide +kernel
theorem d1_161 : decode method_5_code 161 = .ok (.bastore, 1) := by decide +kernel
theorem d1_162 : decode method_5_code 162 = .ok (.aload_n 0, 1) := by decide +kernel
theorem d1_163 : decode method_5_code 163 = .ok (.bipush 15, 2) := by decide +kernel
theorem d1_165 : decode method_5_code 165 = .ok (.lload_n 1, 1) := by decide +kernel
theorem d1_166 : decode method_5_code 166 = .ok (.aload_n 3, 1) := by decide +kernel
theorem d1_167 : decode method_5_code 167 = .ok (.iconst 4, 1) := by decide +kernel
theorem d1_168 : decode method_5_code 168 = .ok (.laload, 1) := by decide +kernel
theorem d1_169 : decode method_5_code 169 = .ok (.invokestatic 69, 3) := by decide +kernel
theorem d1_172 : decode method_5_code 172 = .ok (.bastore, 1) := by decide +kernel
theorem d1_173 : decode method_5_code 173 = .ok (.aload_n 0, 1) := by decide +kernel
theorem d1_174 : decode method_5_code 174 = .ok (.bipush 16, 2) := by decide +kernel
theorem d1_176 : decode method_5_code 176 = .ok (.lload_n 1, 1) := by decide +kernel
theorem d1_177 : decode method_5_code 177 = .ok (.aload_n 3, 1) := by decide +kernel
theorem d1_178 : decode method_5_code 178 = .ok (.iconst 3, 1) := by decide +kernel
theorem d1_179 : decode method_5_code 179 = .ok (.laload, 1) := by decide +kernel
theorem d1_180 : decode method_5_code 180 = .ok (.invokestatic 69, 3) := by decide +kernel
theorem d1_183 : decode method_5_code 183 = .ok (.bastore, 1) := by decide +kernel
theorem d1_184 : decode method_5_code 184 = .ok (.aload_n 0, 1) := by decide +kernel
theorem d1_185 : decode method_5_code 185 = .ok (.bipush 17, 2) := by decide +kernel
theorem d1_187 : decode method_5_code 187 = .ok (.lload_n 1, 1) := by decide +kernel
theorem d1_188 : decode method_5_code 188 = .ok (.aload_n 3, 1) := by decide +kernel
theorem d1_189 : decode method_5_code 189 = .ok (.iconst 2, 1) := by decide +kernel
theorem d1_190 : decode method_5_code 190 = .ok (.laload, 1) := by decide +kernel
theorem d1_191 : decode method_5_code 191 = .ok (.invokestatic 69, 3) := by decide +kernel
theorem d1_194 : decode method_5_code 194 = .ok (.bastore, 1) := by decide +kernel
theorem d1_195 : decode method_5_code 195 = .ok (.aload_n 0, 1) := by decide +kernel
theorem d1_196 : decode method_5_code 196 = .ok (.bipush 18, 2) := by decide +kernel
theorem d1_198 : decode method_5_code 198 = .ok (.lload_n 1, 1) := by decide +kernel
theorem d1_199 : decode method_5_code 199 = .ok (.aload_n 3, 1) := by decide +kernel
theorem d1_200 : decode method_5_code 200 = .ok (.iconst 1, 1) := by decide +kernel
theorem d1_201 : decode method_5_code 201 = .ok (.laload, 1) := by decide +kernel
theorem d1_202 : decode method_5_code 202 = .ok (.invokestatic 69, 3) := by decide +kernel
theorem d1_205 : decode method_5_code 205 = .ok (.bastore, 1) := by decide +kernel
theorem d1_206 : decode method_5_code 206 = .ok (.aload_n 0, 1) := by decide +kernel
theorem d1_207 : decode method_5_code 207 = .ok (.bipush 19, 2) := by decide +kernel
theorem d1_209 : decode method_5_code 209 = .ok (.lload_n 1, 1) := by decide +kernel
theorem d1_210 : decode method_5_code 210 = .ok (.aload_n 3, 1) := by decide +kernel
theorem d1_211 : decode method_5_code 211 = .ok (.iconst 0, 1) := by decide +kernel
theorem d1_212 : decode method_5_code 212 = .ok (.laload, 1) := by decide +kernel
theorem d1_213 : decode method_5_code 213 = .ok (.invokestatic 69, 3) := by decide +kernel
theorem d1_216 : decode method_5_code 216 = .ok (.bastore, 1) := by decide +kernel
theorem d1_217 : decode method_5_code 217 = .ok (.return_, 1) := by decide +kernel
theorem ef_4 (m : MethodId) (x0 : Addr) (x1 : Int32) (x2 : Int32) : entryFrame m #[(.ref x0), (.int x1), (.int x2)] 8 = mkF m 0 #[.val (.ref x0), .val (.int x1), .val (.int x2), .unset, .unset, .unset, .unset, .unset] [] := by first | (simp [entryFrame, mkF, argsToLocals, Value.category]; done) | rfl
theorem d4_0 : decode prog_20_method_6_code 0 = .ok (.iload_n 1, 1) := by decide +kernel
theorem d4_1 : decode prog_20_method_6_code 1 = .ok (.iload_n 2, 1) := by decide +kernel
theorem d4_20 : decode prog_20_method_6_code 20 = .ok (.istore_n 3, 1) := by decide +kernel
theorem d4_21 : decode prog_20_method_6_code 21 = .ok (.iload_n 3, 1) := by decide +kernel
theorem d4_22 : decode prog_20_method_6_code 22 = .ok (.istore 4, 2) := by decide +kernel
theorem d4_44 : decode prog_20_method_6_code 44 = .ok (.iload_n 3, 1) := by decide +kernel
theorem d4_45 : decode prog_20_method_6_code 45 = .ok (.iload 4, 2) := by decide +kernel
theorem d4_47 : decode prog_20_method_6_code 47 = .ok (.if_icmp .ne 5, 3) := by decide +kernel
theorem d4_50 : decode prog_20_method_6_code 50 = .ok (.iconst (-1), 1) := by decide +kernel
theorem d4_51 : decode prog_20_method_6_code 51 = .ok (.ireturn, 1) := by decide +kernel
theorem d4_52 : decode prog_20_method_6_code 52 = .ok (.iload_n 3, 1) := by decide +kernel
theorem d4_53 : decode prog_20_method_6_code 53 = .ok (.iload 4, 2) := by decide +kernel
theorem d4_55 : decode prog_20_method_6_code 55 = .ok (.isub, 1) := by decide +kernel
theorem d4_56 : decode prog_20_method_6_code 56 = .ok (.istore 5, 2) := by decide +kernel
theorem d4_58 : decode prog_20_method_6_code 58 = .ok (.iconst 0, 1) := by decide +kernel
theorem d4_59 : decode prog_20_method_6_code 59 = .ok (.istore 6, 2) := by decide +kernel
theorem d4_61 : decode prog_20_method_6_code 61 = .ok (.iload_n 3, 1) := by decide +kernel
theorem d4_62 : decode prog_20_method_6_code 62 = .ok (.iload_n 2, 1) := by decide +kernel
theorem d4_63 : decode prog_20_method_6_code 63 = .ok (.if_icmp .ge 58, 3) := by decide +kernel
theorem d4_66 : decode prog_20_method_6_code 66 = .ok (.aload_n 0, 1) := by decide +kernel
theorem d4_67 : decode prog_20_method_6_code 67 = .ok (.iload_n 3, 1) := by decide +kernel
theorem d4_68 : decode prog_20_method_6_code 68 = .ok (.baload, 1) := by decide +kernel
theorem d4_69 : decode prog_20_method_6_code 69 = .ok (.bipush 46, 2) := by decide +kernel
theorem d4_71 : decode prog_20_method_6_code 71 = .ok (.if_icmp .ne 50, 3) := by decide +kernel
theorem d4_74 : decode prog_20_method_6_code 74 = .ok (.iinc 3 1, 3) := by decide +kernel
theorem d4_77 : decode prog_20_method_6_code 77 = .ok (.iload_n 3, 1) := by decide +kernel
theorem d4_78 : decode prog_20_method_6_code 78 = .ok (.istore 7, 2) := by decide +kernel
theorem d4_100 : decode prog_20_method_6_code 100 = .ok (.iload_n 3, 1) := by decide +kernel
theorem d4_101 : decode prog_20_method_6_code 101 = .ok (.iload 7, 2) := by decide +kernel
theorem d4_103 : decode prog_20_method_6_code 103 = .ok (.if_icmp .ne 5, 3) := by decide +kernel
theorem d4_106 : decode prog_20_method_6_code 106 = .ok (.iconst (-1), 1) := by decide +kernel
theorem d4_107 : decode prog_20_method_6_code 107 = .ok (.ireturn, 1) := by decide +kernel
theorem d4_108 : decode prog_20_method_6_code 108 = .ok (.iload_n 3, 1) := by decide +kernel
theorem d4_109 : decode prog_20_method_6_code 109 = .ok (.iload 7, 2) := by decide +kernel
theorem d4_111 : decode prog_20_method_6_code 111 = .ok (.isub, 1) := by decide +kernel
theorem d4_112 : decode prog_20_method_6_code 112 = .ok (.istore 6, 2) := by decide +kernel
theorem d4_114 : decode prog_20_method_6_code 114 = .ok (.iload 5, 2) := by decide +kernel
theorem d4_116 : decode prog_20_method_6_code 116 = .ok (.iload 6, 2) := by decide +kernel
theorem d4_118 : decode prog_20_method_6_code 118 = .ok (.iadd, 1) := by decide +kernel
theorem d4_119 : decode prog_20_method_6_code 119 = .ok (.istore 5, 2) := by decide +kernel
theorem d4_121 : decode prog_20_method_6_code 121 = .ok (.iload_n 3, 1) := by decide +kernel
theorem d4_122 : decode prog_20_method_6_code 122 = .ok (.iload_n 2, 1) := by decide +kernel
theorem d4_123 : decode prog_20_method_6_code 123 = .ok (.if_icmp .eq 5, 3) := by decide +kernel
theorem d4_128 : decode prog_20_method_6_code 128 = .ok (.iload 5, 2) := by decide +kernel
theorem d4_130 : decode prog_20_method_6_code 130 = .ok (.bipush 18, 2) := by decide +kernel
theorem d4_132 : decode prog_20_method_6_code 132 = .ok (.if_icmp .le 8, 3) := by decide +kernel
theorem d4_135 : decode prog_20_method_6_code 135 = .ok (.bipush (-2), 2) := by decide +kernel
theorem d4_137 : decode prog_20_method_6_code 137 = .ok (.goto 5, 3) := by decide +kernel
theorem d4_142 : decode prog_20_method_6_code 142 = .ok (.ireturn, 1) := by decide +kernel
theorem d4_140 : decode prog_20_method_6_code 140 = .ok (.iload 6, 2) := by decide +kernel
theorem d4_126 : decode prog_20_method_6_code 126 = .ok (.iconst (-1), 1) := by decide +kernel
theorem d4_127 : decode prog_20_method_6_code 127 = .ok (.ireturn, 1) := by decide +kernel
theorem d4_80 : decode prog_20_method_6_code 80 = .ok (.iload_n 3, 1) := by decide +kernel
theorem d4_81 : decode prog_20_method_6_code 81 = .ok (.iload_n 2, 1) := by decide +kernel
theorem d4_82 : decode prog_20_method_6_code 82 = .ok (.if_icmp .ge 18, 3) := by decide +kernel
theorem d4_85 : decode prog_20_method_6_code 85 = .ok (.aload_n 0, 1) := by decide +kernel
theorem d4_86 : decode prog_20_method_6_code 86 = .ok (.iload_n 3, 1) := by decide +kernel
theorem d4_87 : decode prog_20_method_6_code 87 = .ok (.baload, 1) := by decide +kernel
theorem d4_88 : decode prog_20_method_6_code 88 = .ok (.invokestatic 67, 3) := by decide +kernel
theorem pd_2 : parseMethodDescriptor "(B)Z" = some ⟨[.byte], some .boolean⟩ := by decide +kernel
theorem d4_91 : decode prog_20_method_6_code 91 = .ok (.ifCond .eq 9, 3) := by decide +kernel
theorem d4_94 : decode prog_20_method_6_code 94 = .ok (.iinc 3 1, 3) := by decide +kernel
theorem d4_97 : decode prog_20_method_6_code 97 = .ok (.goto (-17), 3) := by decide +kernel
theorem d4_24 : decode prog_20_method_6_code 24 = .ok (.iload_n 3, 1) := by decide +kernel
theorem d4_25 : decode prog_20_method_6_code 25 = .ok (.iload_n 2, 1) := by decide +kernel
theorem d4_26 : decode prog_20_method_6_code 26 = .ok (.if_icmp .ge 18, 3) := by decide +kernel
theorem d4_29 : decode prog_20_method_6_code 29 = .ok (.aload_n 0, 1) := by decide +kernel
theorem d4_30 : decode prog_20_method_6_code 30 = .ok (.iload_n 3, 1) := by decide +kernel
theorem d4_31 : decode prog_20_method_6_code 31 = .ok (.baload, 1) := by decide +kernel
theorem d4_32 : decode prog_20_method_6_code 32 = .ok (.invokestatic 67, 3) := by decide +kernel
theorem d4_35 : decode prog_20_method_6_code 35 = .ok (.ifCond .eq 9, 3) := by decide +kernel
theorem d4_38 : decode prog_20_method_6_code 38 = .ok (.iinc 3 1, 3) := by decide +kernel
theorem d4_41 : decode prog_20_method_6_code 41 = .ok (.goto (-17), 3) := by decide +kernel
theorem d4_2 : decode prog_20_method_6_code 2 = .ok (.if_icmp .ge 17, 3) := by decide +kernel
theorem d4_5 : decode prog_20_method_6_code 5 = .ok (.aload_n 0, 1) := by decide +kernel
theorem d4_6 : decode prog_20_method_6_code 6 = .ok (.iload_n 1, 1) := by decide +kernel
theorem d4_7 : decode prog_20_method_6_code 7 = .ok (.baload, 1) := by decide +kernel
theorem d4_8 : decode prog_20_method_6_code 8 = .ok (.bipush 45, 2) := by decide +kernel
theorem d4_10 : decode prog_20_method_6_code 10 = .ok (.if_icmp .ne 9, 3) := by decide +kernel
theorem d4_13 : decode prog_20_method_6_code 13 = .ok (.iload_n 1, 1) := by decide +kernel
theorem d4_14 : decode prog_20_method_6_code 14 = .ok (.iconst 1, 1) := by decide +kernel
theorem d4_15 : decode prog_20_method_6_code 15 = .ok (.iadd, 1) := by decide +kernel
theorem d4_16 : decode prog_20_method_6_code 16 = .ok (.goto 4, 3) := by decide +kernel
theorem d4_19 : decode prog_20_method_6_code 19 = .ok (.iload_n 1, 1) := by decide +kernel
theorem ef_6 (m : MethodId) (x0 : Addr) (x1 : Int32) (x2 : Int32) : entryFrame m #[(.ref x0), (.int x1), (.int x2)] 6 = mkF m 0 #[.val (.ref x0), .val (.int x1), .val (.int x2), .unset, .unset, .unset] [] := by first | (simp [entryFrame, mkF, argsToLocals, Value.category]; done) | rfl
theorem d6_0 : decode prog_20_method_7_code 0 = .ok (.lconst 0, 1) := by decide +kernel
theorem d6_1 : decode prog_20_method_7_code 1 = .ok (.lstore_n 3, 1) := by decide +kernel
theorem d6_2 : decode prog_20_method_7_code 2 = .ok (.iload_n 1, 1) := by decide +kernel
theorem d6_3 : decode prog_20_method_7_code 3 = .ok (.istore 5, 2) := by decide +kernel
theorem d6_42 : decode prog_20_method_7_code 42 = .ok (.aload_n 0, 1) := by decide +kernel
theorem d6_43 : decode prog_20_method_7_code 43 = .ok (.iload_n 1, 1) := by decide +kernel
theorem d6_44 : decode prog_20_method_7_code 44 = .ok (.baload, 1) := by decide +kernel
theorem d6_45 : decode prog_20_method_7_code 45 = .ok (.bipush 45, 2) := by decide +kernel
theorem d6_47 : decode prog_20_method_7_code 47 = .ok (.if_icmp .ne 8, 3) := by decide +kernel
theorem d6_50 : decode prog_20_method_7_code 50 = .ok (.lload_n 3, 1) := by decide +kernel
theorem d6_51 : decode prog_20_method_7_code 51 = .ok (.lneg, 1) := by decide +kernel
theorem d6_52 : decode prog_20_method_7_code 52 = .ok (.goto 4, 3) := by decide +kernel
theorem d6_56 : decode prog_20_method_7_code 56 = .ok (.lreturn, 1) := by decide +kernel
theorem d6_55 : decode prog_20_method_7_code 55 = .ok (.lload_n 3, 1) := by decide +kernel
theorem d6_5 : decode prog_20_method_7_code 5 = .ok (.iload 5, 2) := by decide +kernel
theorem d6_7 : decode prog_20_method_7_code 7 = .ok (.iload_n 2, 1) := by decide +kernel
theorem d6_8 : decode prog_20_method_7_code 8 = .ok (.if_icmp .ge 34, 3) := by decide +kernel
theorem d6_11 : decode prog_20_method_7_code 11 = .ok (.aload_n 0, 1) := by decide +kernel
theorem d6_12 : decode prog_20_method_7_code 12 = .ok (.iload 5, 2) := by decide +kernel
theorem d6_14 : decode prog_20_method_7_code 14 = .ok (.baload, 1) := by decide +kernel
theorem d6_15 : decode prog_20_method_7_code 15 = .ok (.invokestatic 67, 3) := by decide +kernel
theorem d6_18 : decode prog_20_method_7_code 18 = .ok (.ifCond .eq 18, 3) := by decide +kernel
theorem d6_36 : decode prog_20_method_7_code 36 = .ok (.iinc 5 1, 3) := by decide +kernel
theorem d6_39 : decode prog_20_method_7_code 39 = .ok (.goto (-34), 3) := by decide +kernel
theorem d6_21 : decode prog_20_method_7_code 21 = .ok (.lload_n 3, 1) := by decide +kernel
theorem d6_22 : decode prog_20_method_7_code 22 = .ok (.ldc2_w 71, 3) := by decide +kernel
theorem d6_25 : decode prog_20_method_7_code 25 = .ok (.lmul, 1) := by decide +kernel
theorem d6_26 : decode prog_20_method_7_code 26 = .ok (.aload_n 0, 1) := by decide +kernel
theorem d6_27 : decode prog_20_method_7_code 27 = .ok (.iload 5, 2) := by decide +kernel
theorem d6_29 : decode prog_20_method_7_code 29 = .ok (.baload, 1) := by decide +kernel
theorem d6_30 : decode prog_20_method_7_code 30 = .ok (.bipush 48, 2) := by decide +kernel
theorem d6_32 : decode prog_20_method_7_code 32 = .ok (.isub, 1) := by decide +kernel
theorem d6_33 : decode prog_20_method_7_code 33 = .ok (.i2l, 1) := by decide +kernel
theorem d6_34 : decode prog_20_method_7_code 34 = .ok (.ladd, 1) := by decide +kernel
theorem d6_35 : decode prog_20_method_7_code 35 = .ok (.lstore_n 3, 1) := by decide +kernel
theorem pn_java_lang_Number : plainName "java/lang/Number" = true := by first | (simp [plainName, overriddenIn]; done) | decide +kernel
theorem ef_11 (m : MethodId) (x0 : Addr) : entryFrame m #[(.ref x0)] 1 = mkF m 0 #[.val (.ref x0)] [] := by first | (simp [entryFrame, mkF, argsToLocals, Value.category]; done) | rfl
theorem d11_0 : decode jdk_18_method_1_code 0 = .ok (.aload_n 0, 1) := by decide +kernel
theorem d11_1 : decode jdk_18_method_1_code 1 = .ok (.invokespecial 1, 3) := by decide +kernel
theorem d11_4 : decode jdk_18_method_1_code 4 = .ok (.return_, 1) := by decide +kernel
theorem pn_java_lang_Long : plainName "java/lang/Long" = true := by first | (simp [plainName, overriddenIn]; done) | decide +kernel
theorem ef_10 (m : MethodId) (x0 : Addr) (x1 : Int64) : entryFrame m #[(.ref x0), (.long x1)] 3 = mkF m 0 #[.val (.ref x0), .val (.long x1), .second] [] := by first | (simp [entryFrame, mkF, argsToLocals, Value.category]; done) | rfl
theorem d10_0 : decode jdk_35_method_26_code 0 = .ok (.aload_n 0, 1) := by decide +kernel
theorem d10_1 : decode jdk_35_method_26_code 1 = .ok (.invokespecial 270, 3) := by decide +kernel
theorem pd_1 : parseMethodDescriptor "()V" = some ⟨[], none⟩ := by decide +kernel
theorem d10_4 : decode jdk_35_method_26_code 4 = .ok (.aload_n 0, 1) := by decide +kernel
theorem d10_5 : decode jdk_35_method_26_code 5 = .ok (.lload_n 1, 1) := by decide +kernel
theorem d10_6 : decode jdk_35_method_26_code 6 = .ok (.putfield 273, 3) := by decide +kernel
theorem d10_9 : decode jdk_35_method_26_code 9 = .ok (.return_, 1) := by decide +kernel
theorem ef_7 (m : MethodId) (x0 : Int64) : entryFrame m #[(.long x0)] 3 = mkF m 0 #[.val (.long x0), .second, .unset] [] := by first | (simp [entryFrame, mkF, argsToLocals, Value.category]; done) | rfl
theorem d7_0 : decode jdk_35_method_24_code 0 = .ok (.sipush 128, 3) := by decide +kernel
theorem d7_3 : decode jdk_35_method_24_code 3 = .ok (.istore_n 2, 1) := by decide +kernel
theorem d7_4 : decode jdk_35_method_24_code 4 = .ok (.lload_n 0, 1) := by decide +kernel
theorem d7_5 : decode jdk_35_method_24_code 5 = .ok (.ldc2_w 230, 3) := by decide +kernel
theorem d7_8 : decode jdk_35_method_24_code 8 = .ok (.lcmp, 1) := by decide +kernel
theorem d7_9 : decode jdk_35_method_24_code 9 = .ok (.ifCond .lt 22, 3) := by decide +kernel
theorem d7_31 : decode jdk_35_method_24_code 31 = .ok (.new 1, 3) := by decide +kernel
theorem d7_34 : decode jdk_35_method_24_code 34 = .ok (.dup, 1) := by decide +kernel
theorem d7_35 : decode jdk_35_method_24_code 35 = .ok (.lload_n 0, 1) := by decide +kernel
theorem d7_36 : decode jdk_35_method_24_code 36 = .ok (.invokespecial 240, 3) := by decide +kernel
theorem pd_4 : parseMethodDescriptor "(J)V" = some ⟨[.long], none⟩ := by decide +kernel
theorem d7_39 : decode jdk_35_method_24_code 39 = .ok (.areturn, 1) := by decide +kernel
theorem d7_12 : decode jdk_35_method_24_code 12 = .ok (.lload_n 0, 1) := by decide +kernel
theorem d7_13 : decode jdk_35_method_24_code 13 = .ok (.ldc2_w 232, 3) := by decide +kernel
theorem d7_16 : decode jdk_35_method_24_code 16 = .ok (.lcmp, 1) := by decide +kernel
theorem d7_17 : decode jdk_35_method_24_code 17 = .ok (.ifCond .gt 14, 3) := by decide +kernel
theorem d7_20 : decode jdk_35_method_24_code 20 = .ok (.getstatic 234, 3) := by decide +kernel
theorem d7_23 : decode jdk_35_method_24_code 23 = .ok (.lload_n 0, 1) := by decide +kernel
theorem d7_24 : decode jdk_35_method_24_code 24 = .ok (.l2i, 1) := by decide +kernel
theorem d7_25 : decode jdk_35_method_24_code 25 = .ok (.sipush 128, 3) := by decide +kernel
theorem d7_28 : decode jdk_35_method_24_code 28 = .ok (.iadd, 1) := by decide +kernel
theorem d7_29 : decode jdk_35_method_24_code 29 = .ok (.aaload, 1) := by decide +kernel
theorem d7_30 : decode jdk_35_method_24_code 30 = .ok (.areturn, 1) := by decide +kernel
theorem ef_8 (m : MethodId) (x0 : Addr) : entryFrame m #[(.ref x0)] 1 = mkF m 0 #[.val (.ref x0)] [] := by first | (simp [entryFrame, mkF, argsToLocals, Value.category]; done) | rfl
theorem d8_0 : decode jdk_35_method_31_code 0 = .ok (.aload_n 0, 1) := by decide +kernel
theorem d8_1 : decode jdk_35_method_31_code 1 = .ok (.getfield 273, 3) := by decide +kernel
theorem d8_4 : decode jdk_35_method_31_code 4 = .ok (.lreturn, 1) := by decide +kernel
theorem ef_3 (m : MethodId) (x0 : Addr) (x1 : Int32) (x2 : Int32) : entryFrame m #[(.ref x0), (.int x1), (.int x2)] 3 = mkF m 0 #[.val (.ref x0), .val (.int x1), .val (.int x2)] [] := by first | (simp [entryFrame, mkF, argsToLocals, Value.category]; done) | rfl
theorem d3_0 : decode prog_20_method_5_code 0 = .ok (.aload_n 0, 1) := by decide +kernel
theorem d3_1 : decode prog_20_method_5_code 1 = .ok (.iload_n 1, 1) := by decide +kernel
theorem d3_2 : decode prog_20_method_5_code 2 = .ok (.iload_n 2, 1) := by decide +kernel
theorem d3_3 : decode prog_20_method_5_code 3 = .ok (.invokestatic 34, 3) := by decide +kernel
theorem pd_7 : parseMethodDescriptor "([BII)I" = some ⟨[(.array .byte), .int, .int], some .int⟩ := by decide +kernel
theorem d3_6 : decode prog_20_method_5_code 6 = .ok (.ifCond .ne 15, 3) := by decide +kernel
theorem d3_9 : decode prog_20_method_5_code 9 = .ok (.aload_n 0, 1) := by decide +kernel
theorem d3_10 : decode prog_20_method_5_code 10 = .ok (.iload_n 1, 1) := by decide +kernel
theorem d3_11 : decode prog_20_method_5_code 11 = .ok (.iload_n 2, 1) := by decide +kernel
theorem d3_12 : decode prog_20_method_5_code 12 = .ok (.invokestatic 45, 3) := by decide +kernel
theorem pd_8 : parseMethodDescriptor "([BII)J" = some ⟨[(.array .byte), .int, .int], some .long⟩ := by decide +kernel
theorem d3_15 : decode prog_20_method_5_code 15 = .ok (.invokestatic 62, 3) := by decide +kernel
theorem pd_3 : parseMethodDescriptor "(J)Ljava/lang/Long;" = some ⟨[.long], some (.object "java/lang/Long")⟩ := by decide +kernel
theorem d3_18 : decode prog_20_method_5_code 18 = .ok (.goto 4, 3) := by decide +kernel
theorem d3_22 : decode prog_20_method_5_code 22 = .ok (.areturn, 1) := by decide +kernel
theorem d3_21 : decode prog_20_method_5_code 21 = .ok (.aconst_null, 1) := by decide +kernel
theorem ef_0 (m : MethodId) (x0 : Int64) (x1 : Int32) (x2 : Int32) (x3 : Int32) (x4 : Int32) : entryFrame m #[(.long x0), (.int x1), (.int x2), (.int x3), (.int x4)] maxLocals = mkF m 0 #[.val (.long x0), .second, .val (.int x1), .val (.int x2), .val (.int x3), .val (.int x4), .unset, .unset, .unset, .unset, .unset, .unset, .unset, .unset, .unset, .unset, .unset, .unset, .unset, .unset, .unset, .unset, .unset, .unset, .unset, .unset, .unset, .unset, .unset, .unset, .unset] [] := by first | (simp [entryFrame, mkF, argsToLocals, Value.category, maxLocals]; done) | rfl
theorem pd_10 : parseMethodDescriptor "([BJ[J)V" = some ⟨[(.array .byte), .long, (.array .long)], none⟩ := by decide +kernel
theorem pd_9 : parseMethodDescriptor "([BII)Ljava/lang/Long;" = some ⟨[(.array .byte), .int, .int], some (.object "java/lang/Long")⟩ := by decide +kernel
theorem pd_0 : parseMethodDescriptor "()J" = some ⟨[], some .long⟩ := by decide +kernel
set_option maxRecDepth 65536 in
set_option maxHeartbeats 40000000 in
theorem rmID (l : Launch) (Z : State) (a0 : Array Value) (hw : ∀ d ∈ tables_1, d.before a0 Z = true) (ws : List Jvm.Cond) (x1 : Int32) (h0 : Heap) (n0 : Nat) (Z0 : n0 ≤ h0.size) :
    own_Met l Z (⟨"com/example/gridtally/gridtally/core/DecimalsIntegerPinLaw", "isDigit", "(B)Z"⟩ : MethodName) method_3_code 1 (some .boolean) ws ({ frames := 0, cells := 0, slots := 0, locals := 0 } : Room) #[(.int x1)] h0 (fun v h L => v = some (.int (if own_dig x1 then 1 else 0)) ∧ Fr n0 L ∧ h = h0) := by
  refine own_body (by first | exact plainFor_of_name pn_com_example_gridtally_gridtally_core_DecimalsIntegerPinLaw | decide +kernel) ?_
  intro p e s m below meth c T0 X0 hx hby hml hret hlk hZ hown hnm e0
  have hown : s.vm.findClass "com/example/gridtally/gridtally/core/DecimalsIntegerPinLaw" = some m.cls := hown
  have hnm : meth.name = "isDigit" := hnm
  have N0 := Fr.nil n0
  rw [ef_9 m x1]
  show own_Go p e below _ T0 (mkF m 0 #[.val (.int x1)] [])
  refine own_go (fun t_ k_ => XS.iloadN X0.here hx rfl (hb hby d9_0) rfl k_) ?_
  show own_Go p e below _ T0 (mkF m 1 #[.val (.int x1)] [(.int x1)])
  refine own_go (fun t_ k_ => XS.bipush X0.here hx rfl (hb hby d9_1) k_) ?_
  show own_Go p e below _ T0 (mkF m 3 #[.val (.int x1)] [(.int (48 : Int32)), (.int x1)])
  by_cases hc3 : x1 < (48 : Int32)
  · show own_Go p e below _ T0 (mkF m 3 #[.val (.int x1)] [(.int (48 : Int32)), (.int x1)])
    refine own_go (fun t_ k_ => XS.icmpYes X0.here hx rfl (pc0 := 3) (pc' := 16) rfl (hb hby d9_3) rfl (XT.ii_lt_t hc3) (by decide) (by decide) k_) ?_
    show own_Go p e below _ T0 (mkF m 16 #[.val (.int x1)] [])
    refine own_go (fun t_ k_ => XS.iconst X0.here hx rfl (hb hby d9_16) k_) ?_
    show own_Go p e below _ T0 (mkF m 17 #[.val (.int x1)] [(.int (0 : Int32))])
    refine own_retZ X0 hx hlk hret (hb hby d9_17) (Or.inl rfl) (by decide) (by decide) ?_
    exact ⟨by rw [if_neg (fun q : own_dig x1 => q.1 hc3)], N0, e0⟩
  · show own_Go p e below _ T0 (mkF m 3 #[.val (.int x1)] [(.int (48 : Int32)), (.int x1)])
    refine own_go (fun t_ k_ => XS.icmpNo X0.here hx rfl (hb hby d9_3) rfl (XT.ii_lt_f hc3) k_) ?_
    show own_Go p e below _ T0 (mkF m 6 #[.val (.int x1)] [])
    refine own_go (fun t_ k_ => XS.iloadN X0.here hx rfl (hb hby d9_6) rfl k_) ?_
    show own_Go p e below _ T0 (mkF m 7 #[.val (.int x1)] [(.int x1)])
    refine own_go (fun t_ k_ => XS.bipush X0.here hx rfl (hb hby d9_7) k_) ?_
    show own_Go p e below _ T0 (mkF m 9 #[.val (.int x1)] [(.int (57 : Int32)), (.int x1)])
    by_cases hc9 : (57 : Int32) < x1
    · show own_Go p e below _ T0 (mkF m 9 #[.val (.int x1)] [(.int (57 : Int32)), (.int x1)])
      refine own_go (fun t_ k_ => XS.icmpYes X0.here hx rfl (pc0 := 9) (pc' := 16) rfl (hb hby d9_9) rfl (XT.ii_gt_t hc9) (by decide) (by decide) k_) ?_
      show own_Go p e below _ T0 (mkF m 16 #[.val (.int x1)] [])
      refine own_go (fun t_ k_ => XS.iconst X0.here hx rfl (hb hby d9_16) k_) ?_
      show own_Go p e below _ T0 (mkF m 17 #[.val (.int x1)] [(.int (0 : Int32))])
      refine own_retZ X0 hx hlk hret (hb hby d9_17) (Or.inl rfl) (by decide) (by decide) ?_
      exact ⟨by rw [if_neg (fun q : own_dig x1 => q.2 hc9)], N0, e0⟩
    · show own_Go p e below _ T0 (mkF m 9 #[.val (.int x1)] [(.int (57 : Int32)), (.int x1)])
      refine own_go (fun t_ k_ => XS.icmpNo X0.here hx rfl (hb hby d9_9) rfl (XT.ii_gt_f hc9) k_) ?_
      show own_Go p e below _ T0 (mkF m 12 #[.val (.int x1)] [])
      refine own_go (fun t_ k_ => XS.iconst X0.here hx rfl (hb hby d9_12) k_) ?_
      show own_Go p e below _ T0 (mkF m 13 #[.val (.int x1)] [(.int (1 : Int32))])
      refine own_go (fun t_ k_ => XS.goto X0.here hx rfl (pc0 := 13) (pc' := 17) rfl (hb hby d9_13) (by decide) (by decide) k_) ?_
      show own_Go p e below _ T0 (mkF m 17 #[.val (.int x1)] [(.int (1 : Int32))])
      refine own_retZ X0 hx hlk hret (hb hby d9_17) (Or.inr rfl) (by decide) (by decide) ?_
      exact ⟨by rw [if_pos (show own_dig x1 from ⟨hc3, hc9⟩)], N0, e0⟩
set_option maxRecDepth 65536 in
set_option maxHeartbeats 40000000 in
theorem rmIE (l : Launch) (Z : State) (a0 : Array Value) (hw : ∀ d ∈ tables_1, d.before a0 Z = true) (ws : List Jvm.Cond) (x1 : Int32) (h0 : Heap) (n0 : Nat) (Z0 : n0 ≤ h0.size) :
    own_Met l Z (⟨"com/example/gridtally/gridtally/core/Decimals", "isDigit", "(B)Z"⟩ : MethodName) prog_20_method_9_code 1 (some .boolean) ws ({ frames := 0, cells := 0, slots := 0, locals := 0 } : Room) #[(.int x1)] h0 (fun v h L => v = some (.int (if own_dig x1 then 1 else 0)) ∧ Fr n0 L ∧ h = h0) := by
  refine own_body (by first | exact plainFor_of_name pn_com_example_gridtally_gridtally_core_Decimals | decide +kernel) ?_
  intro p e s m below meth c T0 X0 hx hby hml hret hlk hZ hown hnm e0
  have hown : s.vm.findClass "com/example/gridtally/gridtally/core/Decimals" = some m.cls := hown
  have hnm : meth.name = "isDigit" := hnm
  have N0 := Fr.nil n0
  rw [ef_5 m x1]
  show own_Go p e below _ T0 (mkF m 0 #[.val (.int x1)] [])
  refine own_go (fun t_ k_ => XS.iloadN X0.here hx rfl (hb hby d5_0) rfl k_) ?_
  show own_Go p e below _ T0 (mkF m 1 #[.val (.int x1)] [(.int x1)])
  refine own_go (fun t_ k_ => XS.bipush X0.here hx rfl (hb hby d5_1) k_) ?_
  show own_Go p e below _ T0 (mkF m 3 #[.val (.int x1)] [(.int (48 : Int32)), (.int x1)])
  by_cases hc3 : x1 < (48 : Int32)
  · show own_Go p e below _ T0 (mkF m 3 #[.val (.int x1)] [(.int (48 : Int32)), (.int x1)])
    refine own_go (fun t_ k_ => XS.icmpYes X0.here hx rfl (pc0 := 3) (pc' := 16) rfl (hb hby d5_3) rfl (XT.ii_lt_t hc3) (by decide) (by decide) k_) ?_
    show own_Go p e below _ T0 (mkF m 16 #[.val (.int x1)] [])
    refine own_go (fun t_ k_ => XS.iconst X0.here hx rfl (hb hby d5_16) k_) ?_
    show own_Go p e below _ T0 (mkF m 17 #[.val (.int x1)] [(.int (0 : Int32))])
    refine own_retZ X0 hx hlk hret (hb hby d5_17) (Or.inl rfl) (by decide) (by decide) ?_
    exact ⟨by rw [if_neg (fun q : own_dig x1 => q.1 hc3)], N0, e0⟩
  · show own_Go p e below _ T0 (mkF m 3 #[.val (.int x1)] [(.int (48 : Int32)), (.int x1)])
    refine own_go (fun t_ k_ => XS.icmpNo X0.here hx rfl (hb hby d5_3) rfl (XT.ii_lt_f hc3) k_) ?_
    show own_Go p e below _ T0 (mkF m 6 #[.val (.int x1)] [])
    refine own_go (fun t_ k_ => XS.iloadN X0.here hx rfl (hb hby d5_6) rfl k_) ?_
    show own_Go p e below _ T0 (mkF m 7 #[.val (.int x1)] [(.int x1)])
    refine own_go (fun t_ k_ => XS.bipush X0.here hx rfl (hb hby d5_7) k_) ?_
    show own_Go p e below _ T0 (mkF m 9 #[.val (.int x1)] [(.int (57 : Int32)), (.int x1)])
    by_cases hc9 : (57 : Int32) < x1
    · show own_Go p e below _ T0 (mkF m 9 #[.val (.int x1)] [(.int (57 : Int32)), (.int x1)])
      refine own_go (fun t_ k_ => XS.icmpYes X0.here hx rfl (pc0 := 9) (pc' := 16) rfl (hb hby d5_9) rfl (XT.ii_gt_t hc9) (by decide) (by decide) k_) ?_
      show own_Go p e below _ T0 (mkF m 16 #[.val (.int x1)] [])
      refine own_go (fun t_ k_ => XS.iconst X0.here hx rfl (hb hby d5_16) k_) ?_
      show own_Go p e below _ T0 (mkF m 17 #[.val (.int x1)] [(.int (0 : Int32))])
      refine own_retZ X0 hx hlk hret (hb hby d5_17) (Or.inl rfl) (by decide) (by decide) ?_
      exact ⟨by rw [if_neg (fun q : own_dig x1 => q.2 hc9)], N0, e0⟩
    · show own_Go p e below _ T0 (mkF m 9 #[.val (.int x1)] [(.int (57 : Int32)), (.int x1)])
      refine own_go (fun t_ k_ => XS.icmpNo X0.here hx rfl (hb hby d5_9) rfl (XT.ii_gt_f hc9) k_) ?_
      show own_Go p e below _ T0 (mkF m 12 #[.val (.int x1)] [])
      refine own_go (fun t_ k_ => XS.iconst X0.here hx rfl (hb hby d5_12) k_) ?_
      show own_Go p e below _ T0 (mkF m 13 #[.val (.int x1)] [(.int (1 : Int32))])
      refine own_go (fun t_ k_ => XS.goto X0.here hx rfl (pc0 := 13) (pc' := 17) rfl (hb hby d5_13) (by decide) (by decide) k_) ?_
      show own_Go p e below _ T0 (mkF m 17 #[.val (.int x1)] [(.int (1 : Int32))])
      refine own_retZ X0 hx hlk hret (hb hby d5_17) (Or.inr rfl) (by decide) (by decide) ?_
      exact ⟨by rw [if_pos (show own_dig x1 from ⟨hc3, hc9⟩)], N0, e0⟩
set_option maxRecDepth 65536 in
set_option maxHeartbeats 40000000 in
theorem rmDig (l : Launch) (Z : State) (a0 : Array Value) (hw : ∀ d ∈ tables_1, d.before a0 Z = true) (ws : List Jvm.Cond) (q1 q2 : Int64) (h0 : Heap) (n0 : Nat) (Z0 : n0 ≤ h0.size) (hp : q2 ≠ 0) :
    own_Met l Z (⟨"com/example/gridtally/gridtally/core/DecimalsIntegerPinLaw", "dig", "(JJ)B"⟩ : MethodName) method_4_code 4 (some .byte) ws ({ frames := 0, cells := 0, slots := 0, locals := 0 } : Room) #[(.long q1), (.long q2)] h0 (fun v h L => v = some (.int (own_dg q1 q2)) ∧ Fr n0 L ∧ h = h0) := by
  refine own_body (by first | exact plainFor_of_name pn_com_example_gridtally_gridtally_core_DecimalsIntegerPinLaw | decide +kernel) ?_
  intro p e s m below meth c T0 X0 hx hby hml hret hlk hZ hown hnm e0
  have hown : s.vm.findClass "com/example/gridtally/gridtally/core/DecimalsIntegerPinLaw" = some m.cls := hown
  have hnm : meth.name = "dig" := hnm
  have N0 := Fr.nil n0
  rw [ef_2 m q1 q2]
  show own_Go p e below _ T0 (mkF m 0 #[.val (.long q1), .second, .val (.long q2), .second] [])
  refine own_go (fun t_ k_ => X0.ldc2Long hx hown (mvT hZ (own_w hw 28 rfl)) (g := (mkF m 0 #[.val (.long q1), .second, .val (.long q2), .second] [])) rfl (hb hby d2_0) t_ k_) ?_
  show own_Go p e below _ T0 (mkF m 3 #[.val (.long q1), .second, .val (.long q2), .second] [(.long (48 : Int64))])
  refine own_go (fun t_ k_ => XS.lloadN X0.here hx rfl (hb hby d2_3) rfl k_) ?_
  show own_Go p e below _ T0 (mkF m 4 #[.val (.long q1), .second, .val (.long q2), .second] [(.long q1), (.long (48 : Int64))])
  refine own_go (fun t_ k_ => XS.lloadN X0.here hx rfl (hb hby d2_4) rfl k_) ?_
  show own_Go p e below _ T0 (mkF m 5 #[.val (.long q1), .second, .val (.long q2), .second] [(.long q2), (.long q1), (.long (48 : Int64))])
  refine own_go (fun t_ k_ => XS.ldiv X0.here hx rfl (hb hby d2_5) rfl hp k_) ?_
  show own_Go p e below _ T0 (mkF m 6 #[.val (.long q1), .second, .val (.long q2), .second] [(.long (q1 / q2)), (.long (48 : Int64))])
  refine own_go (fun t_ k_ => X0.ldc2Long hx hown (mvT hZ (own_w hw 1 rfl)) (g := (mkF m 6 #[.val (.long q1), .second, .val (.long q2), .second] [(.long (q1 / q2)), (.long (48 : Int64))])) rfl (hb hby d2_6) t_ k_) ?_
  show own_Go p e below _ T0 (mkF m 9 #[.val (.long q1), .second, .val (.long q2), .second] [(.long (10 : Int64)), (.long (q1 / q2)), (.long (48 : Int64))])
  refine own_go (fun t_ k_ => own_lrem X0 hx rfl (hb hby d2_9) rfl (by decide) k_) ?_
  show own_Go p e below _ T0 (mkF m 10 #[.val (.long q1), .second, .val (.long q2), .second] [(.long ((q1 / q2) % (10 : Int64))), (.long (48 : Int64))])
  refine own_go (fun t_ k_ => XS.ladd X0.here hx rfl (hb hby d2_10) rfl k_) ?_
  show own_Go p e below _ T0 (mkF m 11 #[.val (.long q1), .second, .val (.long q2), .second] [(.long ((48 : Int64) + ((q1 / q2) % (10 : Int64))))])
  refine own_go (fun t_ k_ => XS.l2i X0.here hx rfl (hb hby d2_11) rfl k_) ?_
  show own_Go p e below _ T0 (mkF m 12 #[.val (.long q1), .second, .val (.long q2), .second] [(.int ((48 : Int64) + ((q1 / q2) % (10 : Int64))).toInt32)])
  refine own_go (fun t_ k_ => XS.i2b X0.here hx rfl (hb hby d2_12) rfl k_) ?_
  show own_Go p e below _ T0 (mkF m 13 #[.val (.long q1), .second, .val (.long q2), .second] [(.int ((48 : Int64) + ((q1 / q2) % (10 : Int64))).toInt32.toInt8.toInt32)])
  refine own_ret X0 hx hlk hret (hb hby d2_13) (XT.narrow_b _) (Or.inl ⟨rfl, by simp, _, rfl⟩) (by decide) (by decide) ?_
  exact ⟨rfl, N0, e0⟩
set_option maxRecDepth 65536 in
set_option maxHeartbeats 40000000 in
theorem rmPut (l : Launch) (Z : State) (a0 : Array Value) (hw : ∀ d ∈ tables_1, d.before a0 Z = true) (ws : List Jvm.Cond) (b t : Addr) (kb : ClassId) (q1 : Int64) (h0 : Heap) (n0 : Nat) (Z0 : n0 ≤ h0.size) (O0 : Old Z n0 h0) (V_b : Arv Z h0 b kb .byte (21 : Int32) [(.int (0 : Int32)), (.int (0 : Int32)), (.int (0 : Int32)), (.int (0 : Int32)), (.int (0 : Int32)), (.int (0 : Int32)), (.int (0 : Int32)), (.int (0 : Int32)), (.int (0 : Int32)), (.int (0 : Int32)), (.int (0 : Int32)), (.int (0 : Int32)), (.int (0 : Int32)), (.int (0 : Int32)), (.int (0 : Int32)), (.int (0 : Int32)), (.int (0 : Int32)), (.int (0 : Int32)), (.int (0 : Int32)), (.int (0 : Int32)), (.int (0 : Int32))] (.int (0 : Int32))) (V_t : own_LA Z h0 t 19 own_ten) (hbt : b ≠ t) (gb : n0 ≤ b) :
    own_Met l Z (⟨"com/example/gridtally/gridtally/core/DecimalsIntegerPinLaw", "put", "([BJ[J)V"⟩ : MethodName) method_5_code 4 none ws ({ frames := 1, cells := 0, slots := 0, locals := 17 } : Room) #[(.ref b), (.long q1), (.ref t)] h0 (fun v h L => v = none ∧ Old Z n0 h ∧ own_BA Z h b 21 (own_f0 q1) ∧ own_LA Z h t 19 own_ten ∧ Fr n0 L) := by
  refine own_body (by first | exact plainFor_of_name pn_com_example_gridtally_gridtally_core_DecimalsIntegerPinLaw | decide +kernel) ?_
  intro p e s m below meth c T0 X0 hx hby hml hret hlk hZ hown hnm e0
  have hown : s.vm.findClass "com/example/gridtally/gridtally/core/DecimalsIntegerPinLaw" = some m.cls := hown
  have hnm : meth.name = "put" := hnm
  have N0 := Fr.nil n0
  rw [ef_1 m b q1 t]
  show own_Go p e below _ T0 (mkF m 0 #[.val (.ref b), .val (.long q1), .second, .val (.ref t)] [])
  have ge_b := gb
  refine own_go (fun t_ k_ => XS.aloadN X0.here hx rfl (hb hby d1_0) rfl rfl k_) ?_
  show own_Go p e below _ T0 (mkF m 1 #[.val (.ref b), .val (.long q1), .second, .val (.ref t)] [(.ref b)])
  refine own_go (fun t_ k_ => XS.iconst X0.here hx rfl (hb hby d1_1) k_) ?_
  show own_Go p e below _ T0 (mkF m 2 #[.val (.ref b), .val (.long q1), .second, .val (.ref t)] [(.int (1 : Int32)), (.ref b)])
  refine own_go (fun t_ k_ => XS.lloadN X0.here hx rfl (hb hby d1_2) rfl k_) ?_
  show own_Go p e below _ T0 (mkF m 3 #[.val (.ref b), .val (.long q1), .second, .val (.ref t)] [(.long q1), (.int (1 : Int32)), (.ref b)])
  refine own_go (fun t_ k_ => XS.aloadN X0.here hx rfl (hb hby d1_3) rfl rfl k_) ?_
  show own_Go p e below _ T0 (mkF m 4 #[.val (.ref b), .val (.long q1), .second, .val (.ref t)] [(.ref t), (.long q1), (.int (1 : Int32)), (.ref b)])
  refine own_go (fun t_ k_ => XS.bipush X0.here hx rfl (hb hby d1_4) k_) ?_
  show own_Go p e below _ T0 (mkF m 6 #[.val (.ref b), .val (.long q1), .second, .val (.ref t)] [(.int (18 : Int32)), (.ref t), (.long q1), (.int (1 : Int32)), (.ref b)])
  refine own_go (own_ldLA X0 hx hZ e0 (Ls := #[.val (.ref b), .val (.long q1), .second, .val (.ref t)]) (rest := [(.long q1), (.int (1 : Int32)), (.ref b)]) V_t (by decide) 18 (by decide) (hb hby d1_6)) ?_
  show own_Go p e below _ T0 (mkF m 7 #[.val (.ref b), .val (.long q1), .second, .val (.ref t)] [(.long (own_ten 18)), (.long q1), (.int (1 : Int32)), (.ref b)])
  obtain ⟨_, T1, L1, X1, ⟨rfl, N1, e1⟩, st1⟩ := own_callS X0 hx hZ (y := (⟨"com/example/gridtally/gridtally/core/DecimalsIntegerPinLaw", "dig", "(JJ)B"⟩ : MethodName)) (argsL := [(.long q1), (.long (own_ten 18))]) (rest := [(.int (1 : Int32)), (.ref b)]) (Ls := #[.val (.ref b), .val (.long q1), .second, .val (.ref t)]) hown (own_w hw 25 rfl) (own_w hw 26 rfl) (own_w hw 23 rfl) (own_w hw 27 rfl) (by decide) e0 (rmDig l Z a0 hw [] q1 (own_ten 18) h0 n0 (own_oldge O0) (own_tenNe (by decide))) 2 (by decide) (by decide) (by decide) (by decide) (by rw [hml]; rfl) (lenOf pd_6 rfl) rfl (Nat.le_of_eq rfl) (hb hby d1_7)
  have M1 := Fr.app N0 N1
  refine own_go st1 ?_
  show own_Go p e below _ T1 (mkF m 10 #[.val (.ref b), .val (.long q1), .second, .val (.ref t)] [(.int (own_dg q1 (own_ten 18))), (.int (1 : Int32)), (.ref b)])
  obtain ⟨T2, h2, L2, X2, N2, e2, W2, V2, st2⟩ := own_stB X1 hx hZ e1 (j := (1 : Int32)) (vs' := [(.int (0 : Int32)), (.int (own_dg q1 (own_ten 18))), (.int (0 : Int32)), (.int (0 : Int32)), (.int (0 : Int32)), (.int (0 : Int32)), (.int (0 : Int32)), (.int (0 : Int32)), (.int (0 : Int32)), (.int (0 : Int32)), (.int (0 : Int32)), (.int (0 : Int32)), (.int (0 : Int32)), (.int (0 : Int32)), (.int (0 : Int32)), (.int (0 : Int32)), (.int (0 : Int32)), (.int (0 : Int32)), (.int (0 : Int32)), (.int (0 : Int32)), (.int (0 : Int32))]) V_b (own_dgByte _ _) (by decide) 1 rfl (Nat.le_of_ble_eq_true rfl) rfl M1 ge_b (Ls := #[.val (.ref b), .val (.long q1), .second, .val (.ref t)]) (rest := []) (hb hby d1_10)
  have old2 := O0.wr W2 ge_b
  refine own_go st2 ?_
  show own_Go p e below _ T2 (mkF m 11 #[.val (.ref b), .val (.long q1), .second, .val (.ref t)] [])
  refine own_go (fun t_ k_ => XS.aloadN X2.here hx rfl (hb hby d1_11) rfl rfl k_) ?_
  show own_Go p e below _ T2 (mkF m 12 #[.val (.ref b), .val (.long q1), .second, .val (.ref t)] [(.ref b)])
  refine own_go (fun t_ k_ => XS.iconst X2.here hx rfl (hb hby d1_12) k_) ?_
  show own_Go p e below _ T2 (mkF m 13 #[.val (.ref b), .val (.long q1), .second, .val (.ref t)] [(.int (2 : Int32)), (.ref b)])
  refine own_go (fun t_ k_ => XS.lloadN X2.here hx rfl (hb hby d1_13) rfl k_) ?_
  show own_Go p e below _ T2 (mkF m 14 #[.val (.ref b), .val (.long q1), .second, .val (.ref t)] [(.long q1), (.int (2 : Int32)), (.ref b)])
  refine own_go (fun t_ k_ => XS.aloadN X2.here hx rfl (hb hby d1_14) rfl rfl k_) ?_
  show own_Go p e below _ T2 (mkF m 15 #[.val (.ref b), .val (.long q1), .second, .val (.ref t)] [(.ref t), (.long q1), (.int (2 : Int32)), (.ref b)])
  refine own_go (fun t_ k_ => XS.bipush X2.here hx rfl (hb hby d1_15) k_) ?_
  show own_Go p e below _ T2 (mkF m 17 #[.val (.ref b), .val (.long q1), .second, .val (.ref t)] [(.int (17 : Int32)), (.ref t), (.long q1), (.int (2 : Int32)), (.ref b)])
  refine own_go (own_ldLA X2 hx hZ e2 (Ls := #[.val (.ref b), .val (.long q1), .second, .val (.ref t)]) (rest := [(.long q1), (.int (2 : Int32)), (.ref b)]) (V_t.other W2 (Ne.symm hbt)) (by decide) 17 (by decide) (hb hby d1_17)) ?_
  show own_Go p e below _ T2 (mkF m 18 #[.val (.ref b), .val (.long q1), .second, .val (.ref t)] [(.long (own_ten 17)), (.long q1), (.int (2 : Int32)), (.ref b)])
  obtain ⟨_, T3, L3, X3, ⟨rfl, N3, e3⟩, st3⟩ := own_callS X2 hx hZ (y := (⟨"com/example/gridtally/gridtally/core/DecimalsIntegerPinLaw", "dig", "(JJ)B"⟩ : MethodName)) (argsL := [(.long q1), (.long (own_ten 17))]) (rest := [(.int (2 : Int32)), (.ref b)]) (Ls := #[.val (.ref b), .val (.long q1), .second, .val (.ref t)]) hown (own_w hw 25 rfl) (own_w hw 26 rfl) (own_w hw 23 rfl) (own_w hw 27 rfl) (by decide) e2 (rmDig l Z a0 hw [] q1 (own_ten 17) h2 n0 (own_oldge old2) (own_tenNe (by decide))) 2 (by decide) (by decide) (by decide) (by decide) (by rw [hml]; rfl) (lenOf pd_6 rfl) rfl (Nat.le_of_eq rfl) (hb hby d1_18)
  have M3 := Fr.app N2 N3
  refine own_go st3 ?_
  show own_Go p e below _ T3 (mkF m 21 #[.val (.ref b), .val (.long q1), .second, .val (.ref t)] [(.int (own_dg q1 (own_ten 17))), (.int (2 : Int32)), (.ref b)])
  obtain ⟨T4, h4, L4, X4, N4, e4, W4, V4, st4⟩ := own_stB X3 hx hZ e3 (j := (2 : Int32)) (vs' := [(.int (0 : Int32)), (.int (own_dg q1 (own_ten 18))), (.int (own_dg q1 (own_ten 17))), (.int (0 : Int32)), (.int (0 : Int32)), (.int (0 : Int32)), (.int (0 : Int32)), (.int (0 : Int32)), (.int (0 : Int32)), (.int (0 : Int32)), (.int (0 : Int32)), (.int (0 : Int32)), (.int (0 : Int32)), (.int (0 : Int32)), (.int (0 : Int32)), (.int (0 : Int32)), (.int (0 : Int32)), (.int (0 : Int32)), (.int (0 : Int32)), (.int (0 : Int32)), (.int (0 : Int32))]) V2 (own_dgByte _ _) (by decide) 2 rfl (Nat.le_of_ble_eq_true rfl) rfl M3 ge_b (Ls := #[.val (.ref b), .val (.long q1), .second, .val (.ref t)]) (rest := []) (hb hby d1_21)
  have old4 := old2.wr W4 ge_b
  refine own_go st4 ?_
  show own_Go p e below _ T4 (mkF m 22 #[.val (.ref b), .val (.long q1), .second, .val (.ref t)] [])
  refine own_go (fun t_ k_ => XS.aloadN X4.here hx rfl (hb hby d1_22) rfl rfl k_) ?_
  show own_Go p e below _ T4 (mkF m 23 #[.val (.ref b), .val (.long q1), .second, .val (.ref t)] [(.ref b)])
  refine own_go (fun t_ k_ => XS.iconst X4.here hx rfl (hb hby d1_23) k_) ?_
  show own_Go p e below _ T4 (mkF m 24 #[.val (.ref b), .val (.long q1), .second, .val (.ref t)] [(.int (3 : Int32)), (.ref b)])
  refine own_go (fun t_ k_ => XS.lloadN X4.here hx rfl (hb hby d1_24) rfl k_) ?_
  show own_Go p e below _ T4 (mkF m 25 #[.val (.ref b), .val (.long q1), .second, .val (.ref t)] [(.long q1), (.int (3 : Int32)), (.ref b)])
  refine own_go (fun t_ k_ => XS.aloadN X4.here hx rfl (hb hby d1_25) rfl rfl k_) ?_
  show own_Go p e below _ T4 (mkF m 26 #[.val (.ref b), .val (.long q1), .second, .val (.ref t)] [(.ref t), (.long q1), (.int (3 : Int32)), (.ref b)])
  refine own_go (fun t_ k_ => XS.bipush X4.here hx rfl (hb hby d1_26) k_) ?_
  show own_Go p e below _ T4 (mkF m 28 #[.val (.ref b), .val (.long q1), .second, .val (.ref t)] [(.int (16 : Int32)), (.ref t), (.long q1), (.int (3 : Int32)), (.ref b)])
  refine own_go (own_ldLA X4 hx hZ e4 (Ls := #[.val (.ref b), .val (.long q1), .second, .val (.ref t)]) (rest := [(.long q1), (.int (3 : Int32)), (.ref b)]) ((V_t.other W2 (Ne.symm hbt)).other W4 (Ne.symm hbt)) (by decide) 16 (by decide) (hb hby d1_28)) ?_
  show own_Go p e below _ T4 (mkF m 29 #[.val (.ref b), .val (.long q1), .second, .val (.ref t)] [(.long (own_ten 16)), (.long q1), (.int (3 : Int32)), (.ref b)])
  obtain ⟨_, T5, L5, X5, ⟨rfl, N5, e5⟩, st5⟩ := own_callS X4 hx hZ (y := (⟨"com/example/gridtally/gridtally/core/DecimalsIntegerPinLaw", "dig", "(JJ)B"⟩ : MethodName)) (argsL := [(.long q1), (.long (own_ten 16))]) (rest := [(.int (3 : Int32)), (.ref b)]) (Ls := #[.val (.ref b), .val (.long q1), .second, .val (.ref t)]) hown (own_w hw 25 rfl) (own_w hw 26 rfl) (own_w hw 23 rfl) (own_w hw 27 rfl) (by decide) e4 (rmDig l Z a0 hw [] q1 (own_ten 16) h4 n0 (own_oldge old4) (own_tenNe (by decide))) 2 (by decide) (by decide) (by decide) (by decide) (by rw [hml]; rfl) (lenOf pd_6 rfl) rfl (Nat.le_of_eq rfl) (hb hby d1_29)
  have M5 := Fr.app N4 N5
  refine own_go st5 ?_
  show own_Go p e below _ T5 (mkF m 32 #[.val (.ref b), .val (.long q1), .second, .val (.ref t)] [(.int (own_dg q1 (own_ten 16))), (.int (3 : Int32)), (.ref b)])
  obtain ⟨T6, h6, L6, X6, N6, e6, W6, V6, st6⟩ := own_stB X5 hx hZ e5 (j := (3 : Int32)) (vs' := [(.int (0 : Int32)), (.int (own_dg q1 (own_ten 18))), (.int (own_dg q1 (own_ten 17))), (.int (own_dg q1 (own_ten 16))), (.int (0 : Int32)), (.int (0 : Int32)), (.int (0 : Int32)), (.int (0 : Int32)), (.int (0 : Int32)), (.int (0 : Int32)), (.int (0 : Int32)), (.int (0 : Int32)), (.int (0 : Int32)), (.int (0 : Int32)), (.int (0 : Int32)), (.int (0 : Int32)), (.int (0 : Int32)), (.int (0 : Int32)), (.int (0 : Int32)), (.int (0 : Int32)), (.int (0 : Int32))]) V4 (own_dgByte _ _) (by decide) 3 rfl (Nat.le_of_ble_eq_true rfl) rfl M5 ge_b (Ls := #[.val (.ref b), .val (.long q1), .second, .val (.ref t)]) (rest := []) (hb hby d1_32)
  have old6 := old4.wr W6 ge_b
  refine own_go st6 ?_
  show own_Go p e below _ T6 (mkF m 33 #[.val (.ref b), .val (.long q1), .second, .val (.ref t)] [])
  refine own_go (fun t_ k_ => XS.aloadN X6.here hx rfl (hb hby d1_33) rfl rfl k_) ?_
  show own_Go p e below _ T6 (mkF m 34 #[.val (.ref b), .val (.long q1), .second, .val (.ref t)] [(.ref b)])
  refine own_go (fun t_ k_ => XS.iconst X6.here hx rfl (hb hby d1_34) k_) ?_
  show own_Go p e below _ T6 (mkF m 35 #[.val (.ref b), .val (.long q1), .second, .val (.ref t)] [(.int (4 : Int32)), (.ref b)])
  refine own_go (fun t_ k_ => XS.lloadN X6.here hx rfl (hb hby d1_35) rfl k_) ?_
  show own_Go p e below _ T6 (mkF m 36 #[.val (.ref b), .val (.long q1), .second, .val (.ref t)] [(.long q1), (.int (4 : Int32)), (.ref b)])
  refine own_go (fun t_ k_ => XS.aloadN X6.here hx rfl (hb hby d1_36) rfl rfl k_) ?_
  show own_Go p e below _ T6 (mkF m 37 #[.val (.ref b), .val (.long q1), .second, .val (.ref t)] [(.ref t), (.long q1), (.int (4 : Int32)), (.ref b)])
  refine own_go (fun t_ k_ => XS.bipush X6.here hx rfl (hb hby d1_37) k_) ?_
  show own_Go p e below _ T6 (mkF m 39 #[.val (.ref b), .val (.long q1), .second, .val (.ref t)] [(.int (15 : Int32)), (.ref t), (.long q1), (.int (4 : Int32)), (.ref b)])
  refine own_go (own_ldLA X6 hx hZ e6 (Ls := #[.val (.ref b), .val (.long q1), .second, .val (.ref t)]) (rest := [(.long q1), (.int (4 : Int32)), (.ref b)]) (((V_t.other W2 (Ne.symm hbt)).other W4 (Ne.symm hbt)).other W6 (Ne.symm hbt)) (by decide) 15 (by decide) (hb hby d1_39)) ?_
  show own_Go p e below _ T6 (mkF m 40 #[.val (.ref b), .val (.long q1), .second, .val (.ref t)] [(.long (own_ten 15)), (.long q1), (.int (4 : Int32)), (.ref b)])
  obtain ⟨_, T7, L7, X7, ⟨rfl, N7, e7⟩, st7⟩ := own_callS X6 hx hZ (y := (⟨"com/example/gridtally/gridtally/core/DecimalsIntegerPinLaw", "dig", "(JJ)B"⟩ : MethodName)) (argsL := [(.long q1), (.long (own_ten 15))]) (rest := [(.int (4 : Int32)), (.ref b)]) (Ls := #[.val (.ref b), .val (.long q1), .second, .val (.ref t)]) hown (own_w hw 25 rfl) (own_w hw 26 rfl) (own_w hw 23 rfl) (own_w hw 27 rfl) (by decide) e6 (rmDig l Z a0 hw [] q1 (own_ten 15) h6 n0 (own_oldge old6) (own_tenNe (by decide))) 2 (by decide) (by decide) (by decide) (by decide) (by rw [hml]; rfl) (lenOf pd_6 rfl) rfl (Nat.le_of_eq rfl) (hb hby d1_40)
  have M7 := Fr.app N6 N7
  refine own_go st7 ?_
  show own_Go p e below _ T7 (mkF m 43 #[.val (.ref b), .val (.long q1), .second, .val (.ref t)] [(.int (own_dg q1 (own_ten 15))), (.int (4 : Int32)), (.ref b)])
  obtain ⟨T8, h8, L8, X8, N8, e8, W8, V8, st8⟩ := own_stB X7 hx hZ e7 (j := (4 : Int32)) (vs' := [(.int (0 : Int32)), (.int (own_dg q1 (own_ten 18))), (.int (own_dg q1 (own_ten 17))), (.int (own_dg q1 (own_ten 16))), (.int (own_dg q1 (own_ten 15))), (.int (0 : Int32)), (.int (0 : Int32)), (.int (0 : Int32)), (.int (0 : Int32)), (.int (0 : Int32)), (.int (0 : Int32)), (.int (0 : Int32)), (.int (0 : Int32)), (.int (0 : Int32)), (.int (0 : Int32)), (.int (0 : Int32)), (.int (0 : Int32)), (.int (0 : Int32)), (.int (0 : Int32)), (.int (0 : Int32)), (.int (0 : Int32))]) V6 (own_dgByte _ _) (by decide) 4 rfl (Nat.le_of_ble_eq_true rfl) rfl M7 ge_b (Ls := #[.val (.ref b), .val (.long q1), .second, .val (.ref t)]) (rest := []) (hb hby d1_43)
  have old8 := old6.wr W8 ge_b
  refine own_go st8 ?_
  show own_Go p e below _ T8 (mkF m 44 #[.val (.ref b), .val (.long q1), .second, .val (.ref t)] [])
  refine own_go (fun t_ k_ => XS.aloadN X8.here hx rfl (hb hby d1_44) rfl rfl k_) ?_
  show own_Go p e below _ T8 (mkF m 45 #[.val (.ref b), .val (.long q1), .second, .val (.ref t)] [(.ref b)])
  refine own_go (fun t_ k_ => XS.iconst X8.here hx rfl (hb hby d1_45) k_) ?_
  show own_Go p e below _ T8 (mkF m 46 #[.val (.ref b), .val (.long q1), .second, .val (.ref t)] [(.int (5 : Int32)), (.ref b)])
  refine own_go (fun t_ k_ => XS.lloadN X8.here hx rfl (hb hby d1_46) rfl k_) ?_
  show own_Go p e below _ T8 (mkF m 47 #[.val (.ref b), .val (.long q1), .second, .val (.ref t)] [(.long q1), (.int (5 : Int32)), (.ref b)])
  refine own_go (fun t_ k_ => XS.aloadN X8.here hx rfl (hb hby d1_47) rfl rfl k_) ?_
  show own_Go p e below _ T8 (mkF m 48 #[.val (.ref b), .val (.long q1), .second, .val (.ref t)] [(.ref t), (.long q1), (.int (5 : Int32)), (.ref b)])
  refine own_go (fun t_ k_ => XS.bipush X8.here hx rfl (hb hby d1_48) k_) ?_
  show own_Go p e below _ T8 (mkF m 50 #[.val (.ref b), .val (.long q1), .second, .val (.ref t)] [(.int (14 : Int32)), (.ref t), (.long q1), (.int (5 : Int32)), (.ref b)])
  refine own_go (own_ldLA X8 hx hZ e8 (Ls := #[.val (.ref b), .val (.long q1), .second, .val (.ref t)]) (rest := [(.long q1), (.int (5 : Int32)), (.ref b)]) ((((V_t.other W2 (Ne.symm hbt)).other W4 (Ne.symm hbt)).other W6 (Ne.symm hbt)).other W8 (Ne.symm hbt)) (by decide) 14 (by decide) (hb hby d1_50)) ?_
  show own_Go p e below _ T8 (mkF m 51 #[.val (.ref b), .val (.long q1), .second, .val (.ref t)] [(.long (own_ten 14)), (.long q1), (.int (5 : Int32)), (.ref b)])
  obtain ⟨_, T9, L9, X9, ⟨rfl, N9, e9⟩, st9⟩ := own_callS X8 hx hZ (y := (⟨"com/example/gridtally/gridtally/core/DecimalsIntegerPinLaw", "dig", "(JJ)B"⟩ : MethodName)) (argsL := [(.long q1), (.long (own_ten 14))]) (rest := [(.int (5 : Int32)), (.ref b)]) (Ls := #[.val (.ref b), .val (.long q1), .second, .val (.ref t)]) hown (own_w hw 25 rfl) (own_w hw 26 rfl) (own_w hw 23 rfl) (own_w hw 27 rfl) (by decide) e8 (rmDig l Z a0 hw [] q1 (own_ten 14) h8 n0 (own_oldge old8) (own_tenNe (by decide))) 2 (by decide) (by decide) (by decide) (by decide) (by rw [hml]; rfl) (lenOf pd_6 rfl) rfl (Nat.le_of_eq rfl) (hb hby d1_51)
  have M9 := Fr.app N8 N9
  refine own_go st9 ?_
  show own_Go p e below _ T9 (mkF m 54 #[.val (.ref b), .val (.long q1), .second, .val (.ref t)] [(.int (own_dg q1 (own_ten 14))), (.int (5 : Int32)), (.ref b)])
  obtain ⟨T10, h10, L10, X10, N10, e10, W10, V10, st10⟩ := own_stB X9 hx hZ e9 (j := (5 : Int32)) (vs' := [(.int (0 : Int32)), (.int (own_dg q1 (own_ten 18))), (.int (own_dg q1 (own_ten 17))), (.int (own_dg q1 (own_ten 16))), (.int (own_dg q1 (own_ten 15))), (.int (own_dg q1 (own_ten 14))), (.int (0 : Int32)), (.int (0 : Int32)), (.int (0 : Int32)), (.int (0 : Int32)), (.int (0 : Int32)), (.int (0 : Int32)), (.int (0 : Int32)), (.int (0 : Int32)), (.int (0 : Int32)), (.int (0 : Int32)), (.int (0 : Int32)), (.int (0 : Int32)), (.int (0 : Int32)), (.int (0 : Int32)), (.int (0 : Int32))]) V8 (own_dgByte _ _) (by decide) 5 rfl (Nat.le_of_ble_eq_true rfl) rfl M9 ge_b (Ls := #[.val (.ref b), .val (.long q1), .second, .val (.ref t)]) (rest := []) (hb hby d1_54)
  have old10 := old8.wr W10 ge_b
  refine own_go st10 ?_
  show own_Go p e below _ T10 (mkF m 55 #[.val (.ref b), .val (.long q1), .second, .val (.ref t)] [])
  refine own_go (fun t_ k_ => XS.aloadN X10.here hx rfl (hb hby d1_55) rfl rfl k_) ?_
  show own_Go p e below _ T10 (mkF m 56 #[.val (.ref b), .val (.long q1), .second, .val (.ref t)] [(.ref b)])
  refine own_go (fun t_ k_ => XS.bipush X10.here hx rfl (hb hby d1_56) k_) ?_
  show own_Go p e below _ T10 (mkF m 58 #[.val (.ref b), .val (.long q1), .second, .val (.ref t)] [(.int (6 : Int32)), (.ref b)])
  refine own_go (fun t_ k_ => XS.lloadN X10.here hx rfl (hb hby d1_58) rfl k_) ?_
  show own_Go p e below _ T10 (mkF m 59 #[.val (.ref b), .val (.long q1), .second, .val (.ref t)] [(.long q1), (.int (6 : Int32)), (.ref b)])
  refine own_go (fun t_ k_ => XS.aloadN X10.here hx rfl (hb hby d1_59) rfl rfl k_) ?_
  show own_Go p e below _ T10 (mkF m 60 #[.val (.ref b), .val (.long q1), .second, .val (.ref t)] [(.ref t), (.long q1), (.int (6 : Int32)), (.ref b)])
  refine own_go (fun t_ k_ => XS.bipush X10.here hx rfl (hb hby d1_60) k_) ?_
  show own_Go p e below _ T10 (mkF m 62 #[.val (.ref b), .val (.long q1), .second, .val (.ref t)] [(.int (13 : Int32)), (.ref t), (.long q1), (.int (6 : Int32)), (.ref b)])
  refine own_go (own_ldLA X10 hx hZ e10 (Ls := #[.val (.ref b), .val (.long q1), .second, .val (.ref t)]) (rest := [(.long q1), (.int (6 : Int32)), (.ref b)]) (((((V_t.other W2 (Ne.symm hbt)).other W4 (Ne.symm hbt)).other W6 (Ne.symm hbt)).other W8 (Ne.symm hbt)).other W10 (Ne.symm hbt)) (by decide) 13 (by decide) (hb hby d1_62)) ?_
  show own_Go p e below _ T10 (mkF m 63 #[.val (.ref b), .val (.long q1), .second, .val (.ref t)] [(.long (own_ten 13)), (.long q1), (.int (6 : Int32)), (.ref b)])
  obtain ⟨_, T11, L11, X11, ⟨rfl, N11, e11⟩, st11⟩ := own_callS X10 hx hZ (y := (⟨"com/example/gridtally/gridtally/core/DecimalsIntegerPinLaw", "dig", "(JJ)B"⟩ : MethodName)) (argsL := [(.long q1), (.long (own_ten 13))]) (rest := [(.int (6 : Int32)), (.ref b)]) (Ls := #[.val (.ref b), .val (.long q1), .second, .val (.ref t)]) hown (own_w hw 25 rfl) (own_w hw 26 rfl) (own_w hw 23 rfl) (own_w hw 27 rfl) (by decide) e10 (rmDig l Z a0 hw [] q1 (own_ten 13) h10 n0 (own_oldge old10) (own_tenNe (by decide))) 2 (by decide) (by decide) (by decide) (by decide) (by rw [hml]; rfl) (lenOf pd_6 rfl) rfl (Nat.le_of_eq rfl) (hb hby d1_63)
  have M11 := Fr.app N10 N11
  refine own_go st11 ?_
  show own_Go p e below _ T11 (mkF m 66 #[.val (.ref b), .val (.long q1), .second, .val (.ref t)] [(.int (own_dg q1 (own_ten 13))), (.int (6 : Int32)), (.ref b)])
  obtain ⟨T12, h12, L12, X12, N12, e12, W12, V12, st12⟩ := own_stB X11 hx hZ e11 (j := (6 : Int32)) (vs' := [(.int (0 : Int32)), (.int (own_dg q1 (own_ten 18))), (.int (own_dg q1 (own_ten 17))), (.int (own_dg q1 (own_ten 16))), (.int (own_dg q1 (own_ten 15))), (.int (own_dg q1 (own_ten 14))), (.int (own_dg q1 (own_ten 13))), (.int (0 : Int32)), (.int (0 : Int32)), (.int (0 : Int32)), (.int (0 : Int32)), (.int (0 : Int32)), (.int (0 : Int32)), (.int (0 : Int32)), (.int (0 : Int32)), (.int (0 : Int32)), (.int (0 : Int32)), (.int (0 : Int32)), (.int (0 : Int32)), (.int (0 : Int32)), (.int (0 : Int32))]) V10 (own_dgByte _ _) (by decide) 6 rfl (Nat.le_of_ble_eq_true rfl) rfl M11 ge_b (Ls := #[.val (.ref b), .val (.long q1), .second, .val (.ref t)]) (rest := []) (hb hby d1_66)
  have old12 := old10.wr W12 ge_b
  refine own_go st12 ?_
  show own_Go p e below _ T12 (mkF m 67 #[.val (.ref b), .val (.long q1), .second, .val (.ref t)] [])
  refine own_go (fun t_ k_ => XS.aloadN X12.here hx rfl (hb hby d1_67) rfl rfl k_) ?_
  show own_Go p e below _ T12 (mkF m 68 #[.val (.ref b), .val (.long q1), .second, .val (.ref t)] [(.ref b)])
  refine own_go (fun t_ k_ => XS.bipush X12.here hx rfl (hb hby d1_68) k_) ?_
  show own_Go p e below _ T12 (mkF m 70 #[.val (.ref b), .val (.long q1), .second, .val (.ref t)] [(.int (7 : Int32)), (.ref b)])
  refine own_go (fun t_ k_ => XS.lloadN X12.here hx rfl (hb hby d1_70) rfl k_) ?_
  show own_Go p e below _ T12 (mkF m 71 #[.val (.ref b), .val (.long q1), .second, .val (.ref t)] [(.long q1), (.int (7 : Int32)), (.ref b)])
  refine own_go (fun t_ k_ => XS.aloadN X12.here hx rfl (hb hby d1_71) rfl rfl k_) ?_
  show own_Go p e below _ T12 (mkF m 72 #[.val (.ref b), .val (.long q1), .second, .val (.ref t)] [(.ref t), (.long q1), (.int (7 : Int32)), (.ref b)])
  refine own_go (fun t_ k_ => XS.bipush X12.here hx rfl (hb hby d1_72) k_) ?_
  show own_Go p e below _ T12 (mkF m 74 #[.val (.ref b), .val (.long q1), .second, .val (.ref t)] [(.int (12 : Int32)), (.ref t), (.long q1), (.int (7 : Int32)), (.ref b)])
  refine own_go (own_ldLA X12 hx hZ e12 (Ls := #[.val (.ref b), .val (.long q1), .second, .val (.ref t)]) (rest := [(.long q1), (.int (7 : Int32)), (.ref b)]) ((((((V_t.other W2 (Ne.symm hbt)).other W4 (Ne.symm hbt)).other W6 (Ne.symm hbt)).other W8 (Ne.symm hbt)).other W10 (Ne.symm hbt)).other W12 (Ne.symm hbt)) (by decide) 12 (by decide) (hb hby d1_74)) ?_
  show own_Go p e below _ T12 (mkF m 75 #[.val (.ref b), .val (.long q1), .second, .val (.ref t)] [(.long (own_ten 12)), (.long q1), (.int (7 : Int32)), (.ref b)])
  obtain ⟨_, T13, L13, X13, ⟨rfl, N13, e13⟩, st13⟩ := own_callS X12 hx hZ (y := (⟨"com/example/gridtally/gridtally/core/DecimalsIntegerPinLaw", "dig", "(JJ)B"⟩ : MethodName)) (argsL := [(.long q1), (.long (own_ten 12))]) (rest := [(.int (7 : Int32)), (.ref b)]) (Ls := #[.val (.ref b), .val (.long q1), .second, .val (.ref t)]) hown (own_w hw 25 rfl) (own_w hw 26 rfl) (own_w hw 23 rfl) (own_w hw 27 rfl) (by decide) e12 (rmDig l Z a0 hw [] q1 (own_ten 12) h12 n0 (own_oldge old12) (own_tenNe (by decide))) 2 (by decide) (by decide) (by decide) (by decide) (by rw [hml]; rfl) (lenOf pd_6 rfl) rfl (Nat.le_of_eq rfl) (hb hby d1_75)
  have M13 := Fr.app N12 N13
  refine own_go st13 ?_
  show own_Go p e below _ T13 (mkF m 78 #[.val (.ref b), .val (.long q1), .second, .val (.ref t)] [(.int (own_dg q1 (own_ten 12))), (.int (7 : Int32)), (.ref b)])
  obtain ⟨T14, h14, L14, X14, N14, e14, W14, V14, st14⟩ := own_stB X13 hx hZ e13 (j := (7 : Int32)) (vs' := [(.int (0 : Int32)), (.int (own_dg q1 (own_ten 18))), (.int (own_dg q1 (own_ten 17))), (.int (own_dg q1 (own_ten 16))), (.int (own_dg q1 (own_ten 15))), (.int (own_dg q1 (own_ten 14))), (.int (own_dg q1 (own_ten 13))), (.int (own_dg q1 (own_ten 12))), (.int (0 : Int32)), (.int (0 : Int32)), (.int (0 : Int32)), (.int (0 : Int32)), (.int (0 : Int32)), (.int (0 : Int32)), (.int (0 : Int32)), (.int (0 : Int32)), (.int (0 : Int32)), (.int (0 : Int32)), (.int (0 : Int32)), (.int (0 : Int32)), (.int (0 : Int32))]) V12 (own_dgByte _ _) (by decide) 7 rfl (Nat.le_of_ble_eq_true rfl) rfl M13 ge_b (Ls := #[.val (.ref b), .val (.long q1), .second, .val (.ref t)]) (rest := []) (hb hby d1_78)
  have old14 := old12.wr W14 ge_b
  refine own_go st14 ?_
  show own_Go p e below _ T14 (mkF m 79 #[.val (.ref b), .val (.long q1), .second, .val (.ref t)] [])
  refine own_go (fun t_ k_ => XS.aloadN X14.here hx rfl (hb hby d1_79) rfl rfl k_) ?_
  show own_Go p e below _ T14 (mkF m 80 #[.val (.ref b), .val (.long q1), .second, .val (.ref t)] [(.ref b)])
  refine own_go (fun t_ k_ => XS.bipush X14.here hx rfl (hb hby d1_80) k_) ?_
  show own_Go p e below _ T14 (mkF m 82 #[.val (.ref b), .val (.long q1), .second, .val (.ref t)] [(.int (8 : Int32)), (.ref b)])
  refine own_go (fun t_ k_ => XS.lloadN X14.here hx rfl (hb hby d1_82) rfl k_) ?_
  show own_Go p e below _ T14 (mkF m 83 #[.val (.ref b), .val (.long q1), .second, .val (.ref t)] [(.long q1), (.int (8 : Int32)), (.ref b)])
  refine own_go (fun t_ k_ => XS.aloadN X14.here hx rfl (hb hby d1_83) rfl rfl k_) ?_
  show own_Go p e below _ T14 (mkF m 84 #[.val (.ref b), .val (.long q1), .second, .val (.ref t)] [(.ref t), (.long q1), (.int (8 : Int32)), (.ref b)])
  refine own_go (fun t_ k_ => XS.bipush X14.here hx rfl (hb hby d1_84) k_) ?_
  show own_Go p e below _ T14 (mkF m 86 #[.val (.ref b), .val (.long q1), .second, .val (.ref t)] [(.int (11 : Int32)), (.ref t), (.long q1), (.int (8 : Int32)), (.ref b)])
  refine own_go (own_ldLA X14 hx hZ e14 (Ls := #[.val (.ref b), .val (.long q1), .second, .val (.ref t)]) (rest := [(.long q1), (.int (8 : Int32)), (.ref b)]) (((((((V_t.other W2 (Ne.symm hbt)).other W4 (Ne.symm hbt)).other W6 (Ne.symm hbt)).other W8 (Ne.symm hbt)).other W10 (Ne.symm hbt)).other W12 (Ne.symm hbt)).other W14 (Ne.symm hbt)) (by decide) 11 (by decide) (hb hby d1_86)) ?_
  show own_Go p e below _ T14 (mkF m 87 #[.val (.ref b), .val (.long q1), .second, .val (.ref t)] [(.long (own_ten 11)), (.long q1), (.int (8 : Int32)), (.ref b)])
  obtain ⟨_, T15, L15, X15, ⟨rfl, N15, e15⟩, st15⟩ := own_callS X14 hx hZ (y := (⟨"com/example/gridtally/gridtally/core/DecimalsIntegerPinLaw", "dig", "(JJ)B"⟩ : MethodName)) (argsL := [(.long q1), (.long (own_ten 11))]) (rest := [(.int (8 : Int32)), (.ref b)]) (Ls := #[.val (.ref b), .val (.long q1), .second, .val (.ref t)]) hown (own_w hw 25 rfl) (own_w hw 26 rfl) (own_w hw 23 rfl) (own_w hw 27 rfl) (by decide) e14 (rmDig l Z a0 hw [] q1 (own_ten 11) h14 n0 (own_oldge old14) (own_tenNe (by decide))) 2 (by decide) (by decide) (by decide) (by decide) (by rw [hml]; rfl) (lenOf pd_6 rfl) rfl (Nat.le_of_eq rfl) (hb hby d1_87)
  have M15 := Fr.app N14 N15
  refine own_go st15 ?_
  show own_Go p e below _ T15 (mkF m 90 #[.val (.ref b), .val (.long q1), .second, .val (.ref t)] [(.int (own_dg q1 (own_ten 11))), (.int (8 : Int32)), (.ref b)])
  obtain ⟨T16, h16, L16, X16, N16, e16, W16, V16, st16⟩ := own_stB X15 hx hZ e15 (j := (8 : Int32)) (vs' := [(.int (0 : Int32)), (.int (own_dg q1 (own_ten 18))), (.int (own_dg q1 (own_ten 17))), (.int (own_dg q1 (own_ten 16))), (.int (own_dg q1 (own_ten 15))), (.int (own_dg q1 (own_ten 14))), (.int (own_dg q1 (own_ten 13))), (.int (own_dg q1 (own_ten 12))), (.int (own_dg q1 (own_ten 11))), (.int (0 : Int32)), (.int (0 : Int32)), (.int (0 : Int32)), (.int (0 : Int32)), (.int (0 : Int32)), (.int (0 : Int32)), (.int (0 : Int32)), (.int (0 : Int32)), (.int (0 : Int32)), (.int (0 : Int32)), (.int (0 : Int32)), (.int (0 : Int32))]) V14 (own_dgByte _ _) (by decide) 8 rfl (Nat.le_of_ble_eq_true rfl) rfl M15 ge_b (Ls := #[.val (.ref b), .val (.long q1), .second, .val (.ref t)]) (rest := []) (hb hby d1_90)
  have old16 := old14.wr W16 ge_b
  refine own_go st16 ?_
  show own_Go p e below _ T16 (mkF m 91 #[.val (.ref b), .val (.long q1), .second, .val (.ref t)] [])
  refine own_go (fun t_ k_ => XS.aloadN X16.here hx rfl (hb hby d1_91) rfl rfl k_) ?_
  show own_Go p e below _ T16 (mkF m 92 #[.val (.ref b), .val (.long q1), .second, .val (.ref t)] [(.ref b)])
  refine own_go (fun t_ k_ => XS.bipush X16.here hx rfl (hb hby d1_92) k_) ?_
  show own_Go p e below _ T16 (mkF m 94 #[.val (.ref b), .val (.long q1), .second, .val (.ref t)] [(.int (9 : Int32)), (.ref b)])
  refine own_go (fun t_ k_ => XS.lloadN X16.here hx rfl (hb hby d1_94) rfl k_) ?_
  show own_Go p e below _ T16 (mkF m 95 #[.val (.ref b), .val (.long q1), .second, .val (.ref t)] [(.long q1), (.int (9 : Int32)), (.ref b)])
  refine own_go (fun t_ k_ => XS.aloadN X16.here hx rfl (hb hby d1_95) rfl rfl k_) ?_
  show own_Go p e below _ T16 (mkF m 96 #[.val (.ref b), .val (.long q1), .second, .val (.ref t)] [(.ref t), (.long q1), (.int (9 : Int32)), (.ref b)])
  refine own_go (fun t_ k_ => XS.bipush X16.here hx rfl (hb hby d1_96) k_) ?_
  show own_Go p e below _ T16 (mkF m 98 #[.val (.ref b), .val (.long q1), .second, .val (.ref t)] [(.int (10 : Int32)), (.ref t), (.long q1), (.int (9 : Int32)), (.ref b)])
  refine own_go (own_ldLA X16 hx hZ e16 (Ls := #[.val (.ref b), .val (.long q1), .second, .val (.ref t)]) (rest := [(.long q1), (.int (9 : Int32)), (.ref b)]) ((((((((V_t.other W2 (Ne.symm hbt)).other W4 (Ne.symm hbt)).other W6 (Ne.symm hbt)).other W8 (Ne.symm hbt)).other W10 (Ne.symm hbt)).other W12 (Ne.symm hbt)).other W14 (Ne.symm hbt)).other W16 (Ne.symm hbt)) (by decide) 10 (by decide) (hb hby d1_98)) ?_
  show own_Go p e below _ T16 (mkF m 99 #[.val (.ref b), .val (.long q1), .second, .val (.ref t)] [(.long (own_ten 10)), (.long q1), (.int (9 : Int32)), (.ref b)])
  obtain ⟨_, T17, L17, X17, ⟨rfl, N17, e17⟩, st17⟩ := own_callS X16 hx hZ (y := (⟨"com/example/gridtally/gridtally/core/DecimalsIntegerPinLaw", "dig", "(JJ)B"⟩ : MethodName)) (argsL := [(.long q1), (.long (own_ten 10))]) (rest := [(.int (9 : Int32)), (.ref b)]) (Ls := #[.val (.ref b), .val (.long q1), .second, .val (.ref t)]) hown (own_w hw 25 rfl) (own_w hw 26 rfl) (own_w hw 23 rfl) (own_w hw 27 rfl) (by decide) e16 (rmDig l Z a0 hw [] q1 (own_ten 10) h16 n0 (own_oldge old16) (own_tenNe (by decide))) 2 (by decide) (by decide) (by decide) (by decide) (by rw [hml]; rfl) (lenOf pd_6 rfl) rfl (Nat.le_of_eq rfl) (hb hby d1_99)
  have M17 := Fr.app N16 N17
  refine own_go st17 ?_
  show own_Go p e below _ T17 (mkF m 102 #[.val (.ref b), .val (.long q1), .second, .val (.ref t)] [(.int (own_dg q1 (own_ten 10))), (.int (9 : Int32)), (.ref b)])
  obtain ⟨T18, h18, L18, X18, N18, e18, W18, V18, st18⟩ := own_stB X17 hx hZ e17 (j := (9 : Int32)) (vs' := [(.int (0 : Int32)), (.int (own_dg q1 (own_ten 18))), (.int (own_dg q1 (own_ten 17))), (.int (own_dg q1 (own_ten 16))), (.int (own_dg q1 (own_ten 15))), (.int (own_dg q1 (own_ten 14))), (.int (own_dg q1 (own_ten 13))), (.int (own_dg q1 (own_ten 12))), (.int (own_dg q1 (own_ten 11))), (.int (own_dg q1 (own_ten 10))), (.int (0 : Int32)), (.int (0 : Int32)), (.int (0 : Int32)), (.int (0 : Int32)), (.int (0 : Int32)), (.int (0 : Int32)), (.int (0 : Int32)), (.int (0 : Int32)), (.int (0 : Int32)), (.int (0 : Int32)), (.int (0 : Int32))]) V16 (own_dgByte _ _) (by decide) 9 rfl (Nat.le_of_ble_eq_true rfl) rfl M17 ge_b (Ls := #[.val (.ref b), .val (.long q1), .second, .val (.ref t)]) (rest := []) (hb hby d1_102)
  have old18 := old16.wr W18 ge_b
  refine own_go st18 ?_
  show own_Go p e below _ T18 (mkF m 103 #[.val (.ref b), .val (.long q1), .second, .val (.ref t)] [])
  refine own_go (fun t_ k_ => XS.aloadN X18.here hx rfl (hb hby d1_103) rfl rfl k_) ?_
  show own_Go p e below _ T18 (mkF m 104 #[.val (.ref b), .val (.long q1), .second, .val (.ref t)] [(.ref b)])
  refine own_go (fun t_ k_ => XS.bipush X18.here hx rfl (hb hby d1_104) k_) ?_
  show own_Go p e below _ T18 (mkF m 106 #[.val (.ref b), .val (.long q1), .second, .val (.ref t)] [(.int (10 : Int32)), (.ref b)])
  refine own_go (fun t_ k_ => XS.lloadN X18.here hx rfl (hb hby d1_106) rfl k_) ?_
  show own_Go p e below _ T18 (mkF m 107 #[.val (.ref b), .val (.long q1), .second, .val (.ref t)] [(.long q1), (.int (10 : Int32)), (.ref b)])
  refine own_go (fun t_ k_ => XS.aloadN X18.here hx rfl (hb hby d1_107) rfl rfl k_) ?_
  show own_Go p e below _ T18 (mkF m 108 #[.val (.ref b), .val (.long q1), .second, .val (.ref t)] [(.ref t), (.long q1), (.int (10 : Int32)), (.ref b)])
  refine own_go (fun t_ k_ => XS.bipush X18.here hx rfl (hb hby d1_108) k_) ?_
  show own_Go p e below _ T18 (mkF m 110 #[.val (.ref b), .val (.long q1), .second, .val (.ref t)] [(.int (9 : Int32)), (.ref t), (.long q1), (.int (10 : Int32)), (.ref b)])
  refine own_go (own_ldLA X18 hx hZ e18 (Ls := #[.val (.ref b), .val (.long q1), .second, .val (.ref t)]) (rest := [(.long q1), (.int (10 : Int32)), (.ref b)]) (((((((((V_t.other W2 (Ne.symm hbt)).other W4 (Ne.symm hbt)).other W6 (Ne.symm hbt)).other W8 (Ne.symm hbt)).other W10 (Ne.symm hbt)).other W12 (Ne.symm hbt)).other W14 (Ne.symm hbt)).other W16 (Ne.symm hbt)).other W18 (Ne.symm hbt)) (by decide) 9 (by decide) (hb hby d1_110)) ?_
  show own_Go p e below _ T18 (mkF m 111 #[.val (.ref b), .val (.long q1), .second, .val (.ref t)] [(.long (own_ten 9)), (.long q1), (.int (10 : Int32)), (.ref b)])
  obtain ⟨_, T19, L19, X19, ⟨rfl, N19, e19⟩, st19⟩ := own_callS X18 hx hZ (y := (⟨"com/example/gridtally/gridtally/core/DecimalsIntegerPinLaw", "dig", "(JJ)B"⟩ : MethodName)) (argsL := [(.long q1), (.long (own_ten 9))]) (rest := [(.int (10 : Int32)), (.ref b)]) (Ls := #[.val (.ref b), .val (.long q1), .second, .val (.ref t)]) hown (own_w hw 25 rfl) (own_w hw 26 rfl) (own_w hw 23 rfl) (own_w hw 27 rfl) (by decide) e18 (rmDig l Z a0 hw [] q1 (own_ten 9) h18 n0 (own_oldge old18) (own_tenNe (by decide))) 2 (by decide) (by decide) (by decide) (by decide) (by rw [hml]; rfl) (lenOf pd_6 rfl) rfl (Nat.le_of_eq rfl) (hb hby d1_111)
  have M19 := Fr.app N18 N19
  refine own_go st19 ?_
  show own_Go p e below _ T19 (mkF m 114 #[.val (.ref b), .val (.long q1), .second, .val (.ref t)] [(.int (own_dg q1 (own_ten 9))), (.int (10 : Int32)), (.ref b)])
  obtain ⟨T20, h20, L20, X20, N20, e20, W20, V20, st20⟩ := own_stB X19 hx hZ e19 (j := (10 : Int32)) (vs' := [(.int (0 : Int32)), (.int (own_dg q1 (own_ten 18))), (.int (own_dg q1 (own_ten 17))), (.int (own_dg q1 (own_ten 16))), (.int (own_dg q1 (own_ten 15))), (.int (own_dg q1 (own_ten 14))), (.int (own_dg q1 (own_ten 13))), (.int (own_dg q1 (own_ten 12))), (.int (own_dg q1 (own_ten 11))), (.int (own_dg q1 (own_ten 10))), (.int (own_dg q1 (own_ten 9))), (.int (0 : Int32)), (.int (0 : Int32)), (.int (0 : Int32)), (.int (0 : Int32)), (.int (0 : Int32)), (.int (0 : Int32)), (.int (0 : Int32)), (.int (0 : Int32)), (.int (0 : Int32)), (.int (0 : Int32))]) V18 (own_dgByte _ _) (by decide) 10 rfl (Nat.le_of_ble_eq_true rfl) rfl M19 ge_b (Ls := #[.val (.ref b), .val (.long q1), .second, .val (.ref t)]) (rest := []) (hb hby d1_114)
  have old20 := old18.wr W20 ge_b
  refine own_go st20 ?_
  show own_Go p e below _ T20 (mkF m 115 #[.val (.ref b), .val (.long q1), .second, .val (.ref t)] [])
  refine own_go (fun t_ k_ => XS.aloadN X20.here hx rfl (hb hby d1_115) rfl rfl k_) ?_
  show own_Go p e below _ T20 (mkF m 116 #[.val (.ref b), .val (.long q1), .second, .val (.ref t)] [(.ref b)])
  refine own_go (fun t_ k_ => XS.bipush X20.here hx rfl (hb hby d1_116) k_) ?_
  show own_Go p e below _ T20 (mkF m 118 #[.val (.ref b), .val (.long q1), .second, .val (.ref t)] [(.int (11 : Int32)), (.ref b)])
  refine own_go (fun t_ k_ => XS.lloadN X20.here hx rfl (hb hby d1_118) rfl k_) ?_
  show own_Go p e below _ T20 (mkF m 119 #[.val (.ref b), .val (.long q1), .second, .val (.ref t)] [(.long q1), (.int (11 : Int32)), (.ref b)])
  refine own_go (fun t_ k_ => XS.aloadN X20.here hx rfl (hb hby d1_119) rfl rfl k_) ?_
  show own_Go p e below _ T20 (mkF m 120 #[.val (.ref b), .val (.long q1), .second, .val (.ref t)] [(.ref t), (.long q1), (.int (11 : Int32)), (.ref b)])
  refine own_go (fun t_ k_ => XS.bipush X20.here hx rfl (hb hby d1_120) k_) ?_
  show own_Go p e below _ T20 (mkF m 122 #[.val (.ref b), .val (.long q1), .second, .val (.ref t)] [(.int (8 : Int32)), (.ref t), (.long q1), (.int (11 : Int32)), (.ref b)])
  refine own_go (own_ldLA X20 hx hZ e20 (Ls := #[.val (.ref b), .val (.long q1), .second, .val (.ref t)]) (rest := [(.long q1), (.int (11 : Int32)), (.ref b)]) ((((((((((V_t.other W2 (Ne.symm hbt)).other W4 (Ne.symm hbt)).other W6 (Ne.symm hbt)).other W8 (Ne.symm hbt)).other W10 (Ne.symm hbt)).other W12 (Ne.symm hbt)).other W14 (Ne.symm hbt)).other W16 (Ne.symm hbt)).other W18 (Ne.symm hbt)).other W20 (Ne.symm hbt)) (by decide) 8 (by decide) (hb hby d1_122)) ?_
  show own_Go p e below _ T20 (mkF m 123 #[.val (.ref b), .val (.long q1), .second, .val (.ref t)] [(.long (own_ten 8)), (.long q1), (.int (11 : Int32)), (.ref b)])
  obtain ⟨_, T21, L21, X21, ⟨rfl, N21, e21⟩, st21⟩ := own_callS X20 hx hZ (y := (⟨"com/example/gridtally/gridtally/core/DecimalsIntegerPinLaw", "dig", "(JJ)B"⟩ : MethodName)) (argsL := [(.long q1), (.long (own_ten 8))]) (rest := [(.int (11 : Int32)), (.ref b)]) (Ls := #[.val (.ref b), .val (.long q1), .second, .val (.ref t)]) hown (own_w hw 25 rfl) (own_w hw 26 rfl) (own_w hw 23 rfl) (own_w hw 27 rfl) (by decide) e20 (rmDig l Z a0 hw [] q1 (own_ten 8) h20 n0 (own_oldge old20) (own_tenNe (by decide))) 2 (by decide) (by decide) (by decide) (by decide) (by rw [hml]; rfl) (lenOf pd_6 rfl) rfl (Nat.le_of_eq rfl) (hb hby d1_123)
  have M21 := Fr.app N20 N21
  refine own_go st21 ?_
  show own_Go p e below _ T21 (mkF m 126 #[.val (.ref b), .val (.long q1), .second, .val (.ref t)] [(.int (own_dg q1 (own_ten 8))), (.int (11 : Int32)), (.ref b)])
  obtain ⟨T22, h22, L22, X22, N22, e22, W22, V22, st22⟩ := own_stB X21 hx hZ e21 (j := (11 : Int32)) (vs' := [(.int (0 : Int32)), (.int (own_dg q1 (own_ten 18))), (.int (own_dg q1 (own_ten 17))), (.int (own_dg q1 (own_ten 16))), (.int (own_dg q1 (own_ten 15))), (.int (own_dg q1 (own_ten 14))), (.int (own_dg q1 (own_ten 13))), (.int (own_dg q1 (own_ten 12))), (.int (own_dg q1 (own_ten 11))), (.int (own_dg q1 (own_ten 10))), (.int (own_dg q1 (own_ten 9))), (.int (own_dg q1 (own_ten 8))), (.int (0 : Int32)), (.int (0 : Int32)), (.int (0 : Int32)), (.int (0 : Int32)), (.int (0 : Int32)), (.int (0 : Int32)), (.int (0 : Int32)), (.int (0 : Int32)), (.int (0 : Int32))]) V20 (own_dgByte _ _) (by decide) 11 rfl (Nat.le_of_ble_eq_true rfl) rfl M21 ge_b (Ls := #[.val (.ref b), .val (.long q1), .second, .val (.ref t)]) (rest := []) (hb hby d1_126)
  have old22 := old20.wr W22 ge_b
  refine own_go st22 ?_
  show own_Go p e below _ T22 (mkF m 127 #[.val (.ref b), .val (.long q1), .second, .val (.ref t)] [])
  refine own_go (fun t_ k_ => XS.aloadN X22.here hx rfl (hb hby d1_127) rfl rfl k_) ?_
  show own_Go p e below _ T22 (mkF m 128 #[.val (.ref b), .val (.long q1), .second, .val (.ref t)] [(.ref b)])
  refine own_go (fun t_ k_ => XS.bipush X22.here hx rfl (hb hby d1_128) k_) ?_
  show own_Go p e below _ T22 (mkF m 130 #[.val (.ref b), .val (.long q1), .second, .val (.ref t)] [(.int (12 : Int32)), (.ref b)])
  refine own_go (fun t_ k_ => XS.lloadN X22.here hx rfl (hb hby d1_130) rfl k_) ?_
  show own_Go p e below _ T22 (mkF m 131 #[.val (.ref b), .val (.long q1), .second, .val (.ref t)] [(.long q1), (.int (12 : Int32)), (.ref b)])
  refine own_go (fun t_ k_ => XS.aloadN X22.here hx rfl (hb hby d1_131) rfl rfl k_) ?_
  show own_Go p e below _ T22 (mkF m 132 #[.val (.ref b), .val (.long q1), .second, .val (.ref t)] [(.ref t), (.long q1), (.int (12 : Int32)), (.ref b)])
  refine own_go (fun t_ k_ => XS.bipush X22.here hx rfl (hb hby d1_132) k_) ?_
  show own_Go p e below _ T22 (mkF m 134 #[.val (.ref b), .val (.long q1), .second, .val (.ref t)] [(.int (7 : Int32)), (.ref t), (.long q1), (.int (12 : Int32)), (.ref b)])
  refine own_go (own_ldLA X22 hx hZ e22 (Ls := #[.val (.ref b), .val (.long q1), .second, .val (.ref t)]) (rest := [(.long q1), (.int (12 : Int32)), (.ref b)]) (((((((((((V_t.other W2 (Ne.symm hbt)).other W4 (Ne.symm hbt)).other W6 (Ne.symm hbt)).other W8 (Ne.symm hbt)).other W10 (Ne.symm hbt)).other W12 (Ne.symm hbt)).other W14 (Ne.symm hbt)).other W16 (Ne.symm hbt)).other W18 (Ne.symm hbt)).other W20 (Ne.symm hbt)).other W22 (Ne.symm hbt)) (by decide) 7 (by decide) (hb hby d1_134)) ?_
  show own_Go p e below _ T22 (mkF m 135 #[.val (.ref b), .val (.long q1), .second, .val (.ref t)] [(.long (own_ten 7)), (.long q1), (.int (12 : Int32)), (.ref b)])
  obtain ⟨_, T23, L23, X23, ⟨rfl, N23, e23⟩, st23⟩ := own_callS X22 hx hZ (y := (⟨"com/example/gridtally/gridtally/core/DecimalsIntegerPinLaw", "dig", "(JJ)B"⟩ : MethodName)) (argsL := [(.long q1), (.long (own_ten 7))]) (rest := [(.int (12 : Int32)), (.ref b)]) (Ls := #[.val (.ref b), .val (.long q1), .second, .val (.ref t)]) hown (own_w hw 25 rfl) (own_w hw 26 rfl) (own_w hw 23 rfl) (own_w hw 27 rfl) (by decide) e22 (rmDig l Z a0 hw [] q1 (own_ten 7) h22 n0 (own_oldge old22) (own_tenNe (by decide))) 2 (by decide) (by decide) (by decide) (by decide) (by rw [hml]; rfl) (lenOf pd_6 rfl) rfl (Nat.le_of_eq rfl) (hb hby d1_135)
  have M23 := Fr.app N22 N23
  refine own_go st23 ?_
  show own_Go p e below _ T23 (mkF m 138 #[.val (.ref b), .val (.long q1), .second, .val (.ref t)] [(.int (own_dg q1 (own_ten 7))), (.int (12 : Int32)), (.ref b)])
  obtain ⟨T24, h24, L24, X24, N24, e24, W24, V24, st24⟩ := own_stB X23 hx hZ e23 (j := (12 : Int32)) (vs' := [(.int (0 : Int32)), (.int (own_dg q1 (own_ten 18))), (.int (own_dg q1 (own_ten 17))), (.int (own_dg q1 (own_ten 16))), (.int (own_dg q1 (own_ten 15))), (.int (own_dg q1 (own_ten 14))), (.int (own_dg q1 (own_ten 13))), (.int (own_dg q1 (own_ten 12))), (.int (own_dg q1 (own_ten 11))), (.int (own_dg q1 (own_ten 10))), (.int (own_dg q1 (own_ten 9))), (.int (own_dg q1 (own_ten 8))), (.int (own_dg q1 (own_ten 7))), (.int (0 : Int32)), (.int (0 : Int32)), (.int (0 : Int32)), (.int (0 : Int32)), (.int (0 : Int32)), (.int (0 : Int32)), (.int (0 : Int32)), (.int (0 : Int32))]) V22 (own_dgByte _ _) (by decide) 12 rfl (Nat.le_of_ble_eq_true rfl) rfl M23 ge_b (Ls := #[.val (.ref b), .val (.long q1), .second, .val (.ref t)]) (rest := []) (hb hby d1_138)
  have old24 := old22.wr W24 ge_b
  refine own_go st24 ?_
  show own_Go p e below _ T24 (mkF m 139 #[.val (.ref b), .val (.long q1), .second, .val (.ref t)] [])
  refine own_go (fun t_ k_ => XS.aloadN X24.here hx rfl (hb hby d1_139) rfl rfl k_) ?_
  show own_Go p e below _ T24 (mkF m 140 #[.val (.ref b), .val (.long q1), .second, .val (.ref t)] [(.ref b)])
  refine own_go (fun t_ k_ => XS.bipush X24.here hx rfl (hb hby d1_140) k_) ?_
  show own_Go p e below _ T24 (mkF m 142 #[.val (.ref b), .val (.long q1), .second, .val (.ref t)] [(.int (13 : Int32)), (.ref b)])
  refine own_go (fun t_ k_ => XS.lloadN X24.here hx rfl (hb hby d1_142) rfl k_) ?_
  show own_Go p e below _ T24 (mkF m 143 #[.val (.ref b), .val (.long q1), .second, .val (.ref t)] [(.long q1), (.int (13 : Int32)), (.ref b)])
  refine own_go (fun t_ k_ => XS.aloadN X24.here hx rfl (hb hby d1_143) rfl rfl k_) ?_
  show own_Go p e below _ T24 (mkF m 144 #[.val (.ref b), .val (.long q1), .second, .val (.ref t)] [(.ref t), (.long q1), (.int (13 : Int32)), (.ref b)])
  refine own_go (fun t_ k_ => XS.bipush X24.here hx rfl (hb hby d1_144) k_) ?_
  show own_Go p e below _ T24 (mkF m 146 #[.val (.ref b), .val (.long q1), .second, .val (.ref t)] [(.int (6 : Int32)), (.ref t), (.long q1), (.int (13 : Int32)), (.ref b)])
  refine own_go (own_ldLA X24 hx hZ e24 (Ls := #[.val (.ref b), .val (.long q1), .second, .val (.ref t)]) (rest := [(.long q1), (.int (13 : Int32)), (.ref b)]) ((((((((((((V_t.other W2 (Ne.symm hbt)).other W4 (Ne.symm hbt)).other W6 (Ne.symm hbt)).other W8 (Ne.symm hbt)).other W10 (Ne.symm hbt)).other W12 (Ne.symm hbt)).other W14 (Ne.symm hbt)).other W16 (Ne.symm hbt)).other W18 (Ne.symm hbt)).other W20 (Ne.symm hbt)).other W22 (Ne.symm hbt)).other W24 (Ne.symm hbt)) (by decide) 6 (by decide) (hb hby d1_146)) ?_
  show own_Go p e below _ T24 (mkF m 147 #[.val (.ref b), .val (.long q1), .second, .val (.ref t)] [(.long (own_ten 6)), (.long q1), (.int (13 : Int32)), (.ref b)])
  obtain ⟨_, T25, L25, X25, ⟨rfl, N25, e25⟩, st25⟩ := own_callS X24 hx hZ (y := (⟨"com/example/gridtally/gridtally/core/DecimalsIntegerPinLaw", "dig", "(JJ)B"⟩ : MethodName)) (argsL := [(.long q1), (.long (own_ten 6))]) (rest := [(.int (13 : Int32)), (.ref b)]) (Ls := #[.val (.ref b), .val (.long q1), .second, .val (.ref t)]) hown (own_w hw 25 rfl) (own_w hw 26 rfl) (own_w hw 23 rfl) (own_w hw 27 rfl) (by decide) e24 (rmDig l Z a0 hw [] q1 (own_ten 6) h24 n0 (own_oldge old24) (own_tenNe (by decide))) 2 (by decide) (by decide) (by decide) (by decide) (by rw [hml]; rfl) (lenOf pd_6 rfl) rfl (Nat.le_of_eq rfl) (hb hby d1_147)
  have M25 := Fr.app N24 N25
  refine own_go st25 ?_
  show own_Go p e below _ T25 (mkF m 150 #[.val (.ref b), .val (.long q1), .second, .val (.ref t)] [(.int (own_dg q1 (own_ten 6))), (.int (13 : Int32)), (.ref b)])
  obtain ⟨T26, h26, L26, X26, N26, e26, W26, V26, st26⟩ := own_stB X25 hx hZ e25 (j := (13 : Int32)) (vs' := [(.int (0 : Int32)), (.int (own_dg q1 (own_ten 18))), (.int (own_dg q1 (own_ten 17))), (.int (own_dg q1 (own_ten 16))), (.int (own_dg q1 (own_ten 15))), (.int (own_dg q1 (own_ten 14))), (.int (own_dg q1 (own_ten 13))), (.int (own_dg q1 (own_ten 12))), (.int (own_dg q1 (own_ten 11))), (.int (own_dg q1 (own_ten 10))), (.int (own_dg q1 (own_ten 9))), (.int (own_dg q1 (own_ten 8))), (.int (own_dg q1 (own_ten 7))), (.int (own_dg q1 (own_ten 6))), (.int (0 : Int32)), (.int (0 : Int32)), (.int (0 : Int32)), (.int (0 : Int32)), (.int (0 : Int32)), (.int (0 : Int32)), (.int (0 : Int32))]) V24 (own_dgByte _ _) (by decide) 13 rfl (Nat.le_of_ble_eq_true rfl) rfl M25 ge_b (Ls := #[.val (.ref b), .val (.long q1), .second, .val (.ref t)]) (rest := []) (hb hby d1_150)
  have old26 := old24.wr W26 ge_b
  refine own_go st26 ?_
  show own_Go p e below _ T26 (mkF m 151 #[.val (.ref b), .val (.long q1), .second, .val (.ref t)] [])
  refine own_go (fun t_ k_ => XS.aloadN X26.here hx rfl (hb hby d1_151) rfl rfl k_) ?_
  show own_Go p e below _ T26 (mkF m 152 #[.val (.ref b), .val (.long q1), .second, .val (.ref t)] [(.ref b)])
  refine own_go (fun t_ k_ => XS.bipush X26.here hx rfl (hb hby d1_152) k_) ?_
  show own_Go p e below _ T26 (mkF m 154 #[.val (.ref b), .val (.long q1), .second, .val (.ref t)] [(.int (14 : Int32)), (.ref b)])
  refine own_go (fun t_ k_ => XS.lloadN X26.here hx rfl (hb hby d1_154) rfl k_) ?_
  show own_Go p e below _ T26 (mkF m 155 #[.val (.ref b), .val (.long q1), .second, .val (.ref t)] [(.long q1), (.int (14 : Int32)), (.ref b)])
  refine own_go (fun t_ k_ => XS.aloadN X26.here hx rfl (hb hby d1_155) rfl rfl k_) ?_
  show own_Go p e below _ T26 (mkF m 156 #[.val (.ref b), .val (.long q1), .second, .val (.ref t)] [(.ref t), (.long q1), (.int (14 : Int32)), (.ref b)])
  refine own_go (fun t_ k_ => XS.iconst X26.here hx rfl (hb hby d1_156) k_) ?_
  show own_Go p e below _ T26 (mkF m 157 #[.val (.ref b), .val (.long q1), .second, .val (.ref t)] [(.int (5 : Int32)), (.ref t), (.long q1), (.int (14 : Int32)), (.ref b)])
  refine own_go (own_ldLA X26 hx hZ e26 (Ls := #[.val (.ref b), .val (.long q1), .second, .val (.ref t)]) (rest := [(.long q1), (.int (14 : Int32)), (.ref b)]) (((((((((((((V_t.other W2 (Ne.symm hbt)).other W4 (Ne.symm hbt)).other W6 (Ne.symm hbt)).other W8 (Ne.symm hbt)).other W10 (Ne.symm hbt)).other W12 (Ne.symm hbt)).other W14 (Ne.symm hbt)).other W16 (Ne.symm hbt)).other W18 (Ne.symm hbt)).other W20 (Ne.symm hbt)).other W22 (Ne.symm hbt)).other W24 (Ne.symm hbt)).other W26 (Ne.symm hbt)) (by decide) 5 (by decide) (hb hby d1_157)) ?_
  show own_Go p e below _ T26 (mkF m 158 #[.val (.ref b), .val (.long q1), .second, .val (.ref t)] [(.long (own_ten 5)), (.long q1), (.int (14 : Int32)), (.ref b)])
  obtain ⟨_, T27, L27, X27, ⟨rfl, N27, e27⟩, st27⟩ := own_callS X26 hx hZ (y := (⟨"com/example/gridtally/gridtally/core/DecimalsIntegerPinLaw", "dig", "(JJ)B"⟩ : MethodName)) (argsL := [(.long q1), (.long (own_ten 5))]) (rest := [(.int (14 : Int32)), (.ref b)]) (Ls := #[.val (.ref b), .val (.long q1), .second, .val (.ref t)]) hown (own_w hw 25 rfl) (own_w hw 26 rfl) (own_w hw 23 rfl) (own_w hw 27 rfl) (by decide) e26 (rmDig l Z a0 hw [] q1 (own_ten 5) h26 n0 (own_oldge old26) (own_tenNe (by decide))) 2 (by decide) (by decide) (by decide) (by decide) (by rw [hml]; rfl) (lenOf pd_6 rfl) rfl (Nat.le_of_eq rfl) (hb hby d1_158)
  have M27 := Fr.app N26 N27
  refine own_go st27 ?_
  show own_Go p e below _ T27 (mkF m 161 #[.val (.ref b), .val (.long q1), .second, .val (.ref t)] [(.int (own_dg q1 (own_ten 5))), (.int (14 : Int32)), (.ref b)])
  obtain ⟨T28, h28, L28, X28, N28, e28, W28, V28, st28⟩ := own_stB X27 hx hZ e27 (j := (14 : Int32)) (vs' := [(.int (0 : Int32)), (.int (own_dg q1 (own_ten 18))), (.int (own_dg q1 (own_ten 17))), (.int (own_dg q1 (own_ten 16))), (.int (own_dg q1 (own_ten 15))), (.int (own_dg q1 (own_ten 14))), (.int (own_dg q1 (own_ten 13))), (.int (own_dg q1 (own_ten 12))), (.int (own_dg q1 (own_ten 11))), (.int (own_dg q1 (own_ten 10))), (.int (own_dg q1 (own_ten 9))), (.int (own_dg q1 (own_ten 8))), (.int (own_dg q1 (own_ten 7))), (.int (own_dg q1 (own_ten 6))), (.int (own_dg q1 (own_ten 5))), (.int (0 : Int32)), (.int (0 : Int32)), (.int (0 : Int32)), (.int (0 : Int32)), (.int (0 : Int32)), (.int (0 : Int32))]) V26 (own_dgByte _ _) (by decide) 14 rfl (Nat.le_of_ble_eq_true rfl) rfl M27 ge_b (Ls := #[.val (.ref b), .val (.long q1), .second, .val (.ref t)]) (rest := []) (hb hby d1_161)
  have old28 := old26.wr W28 ge_b
  refine own_go st28 ?_
  show own_Go p e below _ T28 (mkF m 162 #[.val (.ref b), .val (.long q1), .second, .val (.ref t)] [])
  refine own_go (fun t_ k_ => XS.aloadN X28.here hx rfl (hb hby d1_162) rfl rfl k_) ?_
  show own_Go p e below _ T28 (mkF m 163 #[.val (.ref b), .val (.long q1), .second, .val (.ref t)] [(.ref b)])
  refine own_go (fun t_ k_ => XS.bipush X28.here hx rfl (hb hby d1_163) k_) ?_
  show own_Go p e below _ T28 (mkF m 165 #[.val (.ref b), .val (.long q1), .second, .val (.ref t)] [(.int (15 : Int32)), (.ref b)])
  refine own_go (fun t_ k_ => XS.lloadN X28.here hx rfl (hb hby d1_165) rfl k_) ?_
  show own_Go p e below _ T28 (mkF m 166 #[.val (.ref b), .val (.long q1), .second, .val (.ref t)] [(.long q1), (.int (15 : Int32)), (.ref b)])
  refine own_go (fun t_ k_ => XS.aloadN X28.here hx rfl (hb hby d1_166) rfl rfl k_) ?_
  show own_Go p e below _ T28 (mkF m 167 #[.val (.ref b), .val (.long q1), .second, .val (.ref t)] [(.ref t), (.long q1), (.int (15 : Int32)), (.ref b)])
  refine own_go (fun t_ k_ => XS.iconst X28.here hx rfl (hb hby d1_167) k_) ?_
  show own_Go p e below _ T28 (mkF m 168 #[.val (.ref b), .val (.long q1), .second, .val (.ref t)] [(.int (4 : Int32)), (.ref t), (.long q1), (.int (15 : Int32)), (.ref b)])
  refine own_go (own_ldLA X28 hx hZ e28 (Ls := #[.val (.ref b), .val (.long q1), .second, .val (.ref t)]) (rest := [(.long q1), (.int (15 : Int32)), (.ref b)]) ((((((((((((((V_t.other W2 (Ne.symm hbt)).other W4 (Ne.symm hbt)).other W6 (Ne.symm hbt)).other W8 (Ne.symm hbt)).other W10 (Ne.symm hbt)).other W12 (Ne.symm hbt)).other W14 (Ne.symm hbt)).other W16 (Ne.symm hbt)).other W18 (Ne.symm hbt)).other W20 (Ne.symm hbt)).other W22 (Ne.symm hbt)).other W24 (Ne.symm hbt)).other W26 (Ne.symm hbt)).other W28 (Ne.symm hbt)) (by decide) 4 (by decide) (hb hby d1_168)) ?_
  show own_Go p e below _ T28 (mkF m 169 #[.val (.ref b), .val (.long q1), .second, .val (.ref t)] [(.long (own_ten 4)), (.long q1), (.int (15 : Int32)), (.ref b)])
  obtain ⟨_, T29, L29, X29, ⟨rfl, N29, e29⟩, st29⟩ := own_callS X28 hx hZ (y := (⟨"com/example/gridtally/gridtally/core/DecimalsIntegerPinLaw", "dig", "(JJ)B"⟩ : MethodName)) (argsL := [(.long q1), (.long (own_ten 4))]) (rest := [(.int (15 : Int32)), (.ref b)]) (Ls := #[.val (.ref b), .val (.long q1), .second, .val (.ref t)]) hown (own_w hw 25 rfl) (own_w hw 26 rfl) (own_w hw 23 rfl) (own_w hw 27 rfl) (by decide) e28 (rmDig l Z a0 hw [] q1 (own_ten 4) h28 n0 (own_oldge old28) (own_tenNe (by decide))) 2 (by decide) (by decide) (by decide) (by decide) (by rw [hml]; rfl) (lenOf pd_6 rfl) rfl (Nat.le_of_eq rfl) (hb hby d1_169)
  have M29 := Fr.app N28 N29
  refine own_go st29 ?_
  show own_Go p e below _ T29 (mkF m 172 #[.val (.ref b), .val (.long q1), .second, .val (.ref t)] [(.int (own_dg q1 (own_ten 4))), (.int (15 : Int32)), (.ref b)])
  obtain ⟨T30, h30, L30, X30, N30, e30, W30, V30, st30⟩ := own_stB X29 hx hZ e29 (j := (15 : Int32)) (vs' := [(.int (0 : Int32)), (.int (own_dg q1 (own_ten 18))), (.int (own_dg q1 (own_ten 17))), (.int (own_dg q1 (own_ten 16))), (.int (own_dg q1 (own_ten 15))), (.int (own_dg q1 (own_ten 14))), (.int (own_dg q1 (own_ten 13))), (.int (own_dg q1 (own_ten 12))), (.int (own_dg q1 (own_ten 11))), (.int (own_dg q1 (own_ten 10))), (.int (own_dg q1 (own_ten 9))), (.int (own_dg q1 (own_ten 8))), (.int (own_dg q1 (own_ten 7))), (.int (own_dg q1 (own_ten 6))), (.int (own_dg q1 (own_ten 5))), (.int (own_dg q1 (own_ten 4))), (.int (0 : Int32)), (.int (0 : Int32)), (.int (0 : Int32)), (.int (0 : Int32)), (.int (0 : Int32))]) V28 (own_dgByte _ _) (by decide) 15 rfl (Nat.le_of_ble_eq_true rfl) rfl M29 ge_b (Ls := #[.val (.ref b), .val (.long q1), .second, .val (.ref t)]) (rest := []) (hb hby d1_172)
  have old30 := old28.wr W30 ge_b
  refine own_go st30 ?_
  show own_Go p e below _ T30 (mkF m 173 #[.val (.ref b), .val (.long q1), .second, .val (.ref t)] [])
  refine own_go (fun t_ k_ => XS.aloadN X30.here hx rfl (hb hby d1_173) rfl rfl k_) ?_
  show own_Go p e below _ T30 (mkF m 174 #[.val (.ref b), .val (.long q1), .second, .val (.ref t)] [(.ref b)])
  refine own_go (fun t_ k_ => XS.bipush X30.here hx rfl (hb hby d1_174) k_) ?_
  show own_Go p e below _ T30 (mkF m 176 #[.val (.ref b), .val (.long q1), .second, .val (.ref t)] [(.int (16 : Int32)), (.ref b)])
  refine own_go (fun t_ k_ => XS.lloadN X30.here hx rfl (hb hby d1_176) rfl k_) ?_
  show own_Go p e below _ T30 (mkF m 177 #[.val (.ref b), .val (.long q1), .second, .val (.ref t)] [(.long q1), (.int (16 : Int32)), (.ref b)])
  refine own_go (fun t_ k_ => XS.aloadN X30.here hx rfl (hb hby d1_177) rfl rfl k_) ?_
  show own_Go p e below _ T30 (mkF m 178 #[.val (.ref b), .val (.long q1), .second, .val (.ref t)] [(.ref t), (.long q1), (.int (16 : Int32)), (.ref b)])
  refine own_go (fun t_ k_ => XS.iconst X30.here hx rfl (hb hby d1_178) k_) ?_
  show own_Go p e below _ T30 (mkF m 179 #[.val (.ref b), .val (.long q1), .second, .val (.ref t)] [(.int (3 : Int32)), (.ref t), (.long q1), (.int (16 : Int32)), (.ref b)])
  refine own_go (own_ldLA X30 hx hZ e30 (Ls := #[.val (.ref b), .val (.long q1), .second, .val (.ref t)]) (rest := [(.long q1), (.int (16 : Int32)), (.ref b)]) (((((((((((((((V_t.other W2 (Ne.symm hbt)).other W4 (Ne.symm hbt)).other W6 (Ne.symm hbt)).other W8 (Ne.symm hbt)).other W10 (Ne.symm hbt)).other W12 (Ne.symm hbt)).other W14 (Ne.symm hbt)).other W16 (Ne.symm hbt)).other W18 (Ne.symm hbt)).other W20 (Ne.symm hbt)).other W22 (Ne.symm hbt)).other W24 (Ne.symm hbt)).other W26 (Ne.symm hbt)).other W28 (Ne.symm hbt)).other W30 (Ne.symm hbt)) (by decide) 3 (by decide) (hb hby d1_179)) ?_
  show own_Go p e below _ T30 (mkF m 180 #[.val (.ref b), .val (.long q1), .second, .val (.ref t)] [(.long (own_ten 3)), (.long q1), (.int (16 : Int32)), (.ref b)])
  obtain ⟨_, T31, L31, X31, ⟨rfl, N31, e31⟩, st31⟩ := own_callS X30 hx hZ (y := (⟨"com/example/gridtally/gridtally/core/DecimalsIntegerPinLaw", "dig", "(JJ)B"⟩ : MethodName)) (argsL := [(.long q1), (.long (own_ten 3))]) (rest := [(.int (16 : Int32)), (.ref b)]) (Ls := #[.val (.ref b), .val (.long q1), .second, .val (.ref t)]) hown (own_w hw 25 rfl) (own_w hw 26 rfl) (own_w hw 23 rfl) (own_w hw 27 rfl) (by decide) e30 (rmDig l Z a0 hw [] q1 (own_ten 3) h30 n0 (own_oldge old30) (own_tenNe (by decide))) 2 (by decide) (by decide) (by decide) (by decide) (by rw [hml]; rfl) (lenOf pd_6 rfl) rfl (Nat.le_of_eq rfl) (hb hby d1_180)
  have M31 := Fr.app N30 N31
  refine own_go st31 ?_
  show own_Go p e below _ T31 (mkF m 183 #[.val (.ref b), .val (.long q1), .second, .val (.ref t)] [(.int (own_dg q1 (own_ten 3))), (.int (16 : Int32)), (.ref b)])
  obtain ⟨T32, h32, L32, X32, N32, e32, W32, V32, st32⟩ := own_stB X31 hx hZ e31 (j := (16 : Int32)) (vs' := [(.int (0 : Int32)), (.int (own_dg q1 (own_ten 18))), (.int (own_dg q1 (own_ten 17))), (.int (own_dg q1 (own_ten 16))), (.int (own_dg q1 (own_ten 15))), (.int (own_dg q1 (own_ten 14))), (.int (own_dg q1 (own_ten 13))), (.int (own_dg q1 (own_ten 12))), (.int (own_dg q1 (own_ten 11))), (.int (own_dg q1 (own_ten 10))), (.int (own_dg q1 (own_ten 9))), (.int (own_dg q1 (own_ten 8))), (.int (own_dg q1 (own_ten 7))), (.int (own_dg q1 (own_ten 6))), (.int (own_dg q1 (own_ten 5))), (.int (own_dg q1 (own_ten 4))), (.int (own_dg q1 (own_ten 3))), (.int (0 : Int32)), (.int (0 : Int32)), (.int (0 : Int32)), (.int (0 : Int32))]) V30 (own_dgByte _ _) (by decide) 16 rfl (Nat.le_of_ble_eq_true rfl) rfl M31 ge_b (Ls := #[.val (.ref b), .val (.long q1), .second, .val (.ref t)]) (rest := []) (hb hby d1_183)
  have old32 := old30.wr W32 ge_b
  refine own_go st32 ?_
  show own_Go p e below _ T32 (mkF m 184 #[.val (.ref b), .val (.long q1), .second, .val (.ref t)] [])
  refine own_go (fun t_ k_ => XS.aloadN X32.here hx rfl (hb hby d1_184) rfl rfl k_) ?_
  show own_Go p e below _ T32 (mkF m 185 #[.val (.ref b), .val (.long q1), .second, .val (.ref t)] [(.ref b)])
  refine own_go (fun t_ k_ => XS.bipush X32.here hx rfl (hb hby d1_185) k_) ?_
  show own_Go p e below _ T32 (mkF m 187 #[.val (.ref b), .val (.long q1), .second, .val (.ref t)] [(.int (17 : Int32)), (.ref b)])
  refine own_go (fun t_ k_ => XS.lloadN X32.here hx rfl (hb hby d1_187) rfl k_) ?_
  show own_Go p e below _ T32 (mkF m 188 #[.val (.ref b), .val (.long q1), .second, .val (.ref t)] [(.long q1), (.int (17 : Int32)), (.ref b)])
  refine own_go (fun t_ k_ => XS.aloadN X32.here hx rfl (hb hby d1_188) rfl rfl k_) ?_
  show own_Go p e below _ T32 (mkF m 189 #[.val (.ref b), .val (.long q1), .second, .val (.ref t)] [(.ref t), (.long q1), (.int (17 : Int32)), (.ref b)])
  refine own_go (fun t_ k_ => XS.iconst X32.here hx rfl (hb hby d1_189) k_) ?_
  show own_Go p e below _ T32 (mkF m 190 #[.val (.ref b), .val (.long q1), .second, .val (.ref t)] [(.int (2 : Int32)), (.ref t), (.long q1), (.int (17 : Int32)), (.ref b)])
  refine own_go (own_ldLA X32 hx hZ e32 (Ls := #[.val (.ref b), .val (.long q1), .second, .val (.ref t)]) (rest := [(.long q1), (.int (17 : Int32)), (.ref b)]) ((((((((((((((((V_t.other W2 (Ne.symm hbt)).other W4 (Ne.symm hbt)).other W6 (Ne.symm hbt)).other W8 (Ne.symm hbt)).other W10 (Ne.symm hbt)).other W12 (Ne.symm hbt)).other W14 (Ne.symm hbt)).other W16 (Ne.symm hbt)).other W18 (Ne.symm hbt)).other W20 (Ne.symm hbt)).other W22 (Ne.symm hbt)).other W24 (Ne.symm hbt)).other W26 (Ne.symm hbt)).other W28 (Ne.symm hbt)).other W30 (Ne.symm hbt)).other W32 (Ne.symm hbt)) (by decide) 2 (by decide) (hb hby d1_190)) ?_
  show own_Go p e below _ T32 (mkF m 191 #[.val (.ref b), .val (.long q1), .second, .val (.ref t)] [(.long (own_ten 2)), (.long q1), (.int (17 : Int32)), (.ref b)])
  obtain ⟨_, T33, L33, X33, ⟨rfl, N33, e33⟩, st33⟩ := own_callS X32 hx hZ (y := (⟨"com/example/gridtally/gridtally/core/DecimalsIntegerPinLaw", "dig", "(JJ)B"⟩ : MethodName)) (argsL := [(.long q1), (.long (own_ten 2))]) (rest := [(.int (17 : Int32)), (.ref b)]) (Ls := #[.val (.ref b), .val (.long q1), .second, .val (.ref t)]) hown (own_w hw 25 rfl) (own_w hw 26 rfl) (own_w hw 23 rfl) (own_w hw 27 rfl) (by decide) e32 (rmDig l Z a0 hw [] q1 (own_ten 2) h32 n0 (own_oldge old32) (own_tenNe (by decide))) 2 (by decide) (by decide) (by decide) (by decide) (by rw [hml]; rfl) (lenOf pd_6 rfl) rfl (Nat.le_of_eq rfl) (hb hby d1_191)
  have M33 := Fr.app N32 N33
  refine own_go st33 ?_
  show own_Go p e below _ T33 (mkF m 194 #[.val (.ref b), .val (.long q1), .second, .val (.ref t)] [(.int (own_dg q1 (own_ten 2))), (.int (17 : Int32)), (.ref b)])
  obtain ⟨T34, h34, L34, X34, N34, e34, W34, V34, st34⟩ := own_stB X33 hx hZ e33 (j := (17 : Int32)) (vs' := [(.int (0 : Int32)), (.int (own_dg q1 (own_ten 18))), (.int (own_dg q1 (own_ten 17))), (.int (own_dg q1 (own_ten 16))), (.int (own_dg q1 (own_ten 15))), (.int (own_dg q1 (own_ten 14))), (.int (own_dg q1 (own_ten 13))), (.int (own_dg q1 (own_ten 12))), (.int (own_dg q1 (own_ten 11))), (.int (own_dg q1 (own_ten 10))), (.int (own_dg q1 (own_ten 9))), (.int (own_dg q1 (own_ten 8))), (.int (own_dg q1 (own_ten 7))), (.int (own_dg q1 (own_ten 6))), (.int (own_dg q1 (own_ten 5))), (.int (own_dg q1 (own_ten 4))), (.int (own_dg q1 (own_ten 3))), (.int (own_dg q1 (own_ten 2))), (.int (0 : Int32)), (.int (0 : Int32)), (.int (0 : Int32))]) V32 (own_dgByte _ _) (by decide) 17 rfl (Nat.le_of_ble_eq_true rfl) rfl M33 ge_b (Ls := #[.val (.ref b), .val (.long q1), .second, .val (.ref t)]) (rest := []) (hb hby d1_194)
  have old34 := old32.wr W34 ge_b
  refine own_go st34 ?_
  show own_Go p e below _ T34 (mkF m 195 #[.val (.ref b), .val (.long q1), .second, .val (.ref t)] [])
  refine own_go (fun t_ k_ => XS.aloadN X34.here hx rfl (hb hby d1_195) rfl rfl k_) ?_
  show own_Go p e below _ T34 (mkF m 196 #[.val (.ref b), .val (.long q1), .second, .val (.ref t)] [(.ref b)])
  refine own_go (fun t_ k_ => XS.bipush X34.here hx rfl (hb hby d1_196) k_) ?_
  show own_Go p e below _ T34 (mkF m 198 #[.val (.ref b), .val (.long q1), .second, .val (.ref t)] [(.int (18 : Int32)), (.ref b)])
  refine own_go (fun t_ k_ => XS.lloadN X34.here hx rfl (hb hby d1_198) rfl k_) ?_
  show own_Go p e below _ T34 (mkF m 199 #[.val (.ref b), .val (.long q1), .second, .val (.ref t)] [(.long q1), (.int (18 : Int32)), (.ref b)])
  refine own_go (fun t_ k_ => XS.aloadN X34.here hx rfl (hb hby d1_199) rfl rfl k_) ?_
  show own_Go p e below _ T34 (mkF m 200 #[.val (.ref b), .val (.long q1), .second, .val (.ref t)] [(.ref t), (.long q1), (.int (18 : Int32)), (.ref b)])
  refine own_go (fun t_ k_ => XS.iconst X34.here hx rfl (hb hby d1_200) k_) ?_
  show own_Go p e below _ T34 (mkF m 201 #[.val (.ref b), .val (.long q1), .second, .val (.ref t)] [(.int (1 : Int32)), (.ref t), (.long q1), (.int (18 : Int32)), (.ref b)])
  refine own_go (own_ldLA X34 hx hZ e34 (Ls := #[.val (.ref b), .val (.long q1), .second, .val (.ref t)]) (rest := [(.long q1), (.int (18 : Int32)), (.ref b)]) (((((((((((((((((V_t.other W2 (Ne.symm hbt)).other W4 (Ne.symm hbt)).other W6 (Ne.symm hbt)).other W8 (Ne.symm hbt)).other W10 (Ne.symm hbt)).other W12 (Ne.symm hbt)).other W14 (Ne.symm hbt)).other W16 (Ne.symm hbt)).other W18 (Ne.symm hbt)).other W20 (Ne.symm hbt)).other W22 (Ne.symm hbt)).other W24 (Ne.symm hbt)).other W26 (Ne.symm hbt)).other W28 (Ne.symm hbt)).other W30 (Ne.symm hbt)).other W32 (Ne.symm hbt)).other W34 (Ne.symm hbt)) (by decide) 1 (by decide) (hb hby d1_201)) ?_
  show own_Go p e below _ T34 (mkF m 202 #[.val (.ref b), .val (.long q1), .second, .val (.ref t)] [(.long (own_ten 1)), (.long q1), (.int (18 : Int32)), (.ref b)])
  obtain ⟨_, T35, L35, X35, ⟨rfl, N35, e35⟩, st35⟩ := own_callS X34 hx hZ (y := (⟨"com/example/gridtally/gridtally/core/DecimalsIntegerPinLaw", "dig", "(JJ)B"⟩ : MethodName)) (argsL := [(.long q1), (.long (own_ten 1))]) (rest := [(.int (18 : Int32)), (.ref b)]) (Ls := #[.val (.ref b), .val (.long q1), .second, .val (.ref t)]) hown (own_w hw 25 rfl) (own_w hw 26 rfl) (own_w hw 23 rfl) (own_w hw 27 rfl) (by decide) e34 (rmDig l Z a0 hw [] q1 (own_ten 1) h34 n0 (own_oldge old34) (own_tenNe (by decide))) 2 (by decide) (by decide) (by decide) (by decide) (by rw [hml]; rfl) (lenOf pd_6 rfl) rfl (Nat.le_of_eq rfl) (hb hby d1_202)
  have M35 := Fr.app N34 N35
  refine own_go st35 ?_
  show own_Go p e below _ T35 (mkF m 205 #[.val (.ref b), .val (.long q1), .second, .val (.ref t)] [(.int (own_dg q1 (own_ten 1))), (.int (18 : Int32)), (.ref b)])
  obtain ⟨T36, h36, L36, X36, N36, e36, W36, V36, st36⟩ := own_stB X35 hx hZ e35 (j := (18 : Int32)) (vs' := [(.int (0 : Int32)), (.int (own_dg q1 (own_ten 18))), (.int (own_dg q1 (own_ten 17))), (.int (own_dg q1 (own_ten 16))), (.int (own_dg q1 (own_ten 15))), (.int (own_dg q1 (own_ten 14))), (.int (own_dg q1 (own_ten 13))), (.int (own_dg q1 (own_ten 12))), (.int (own_dg q1 (own_ten 11))), (.int (own_dg q1 (own_ten 10))), (.int (own_dg q1 (own_ten 9))), (.int (own_dg q1 (own_ten 8))), (.int (own_dg q1 (own_ten 7))), (.int (own_dg q1 (own_ten 6))), (.int (own_dg q1 (own_ten 5))), (.int (own_dg q1 (own_ten 4))), (.int (own_dg q1 (own_ten 3))), (.int (own_dg q1 (own_ten 2))), (.int (own_dg q1 (own_ten 1))), (.int (0 : Int32)), (.int (0 : Int32))]) V34 (own_dgByte _ _) (by decide) 18 rfl (Nat.le_of_ble_eq_true rfl) rfl M35 ge_b (Ls := #[.val (.ref b), .val (.long q1), .second, .val (.ref t)]) (rest := []) (hb hby d1_205)
  have old36 := old34.wr W36 ge_b
  refine own_go st36 ?_
  show own_Go p e below _ T36 (mkF m 206 #[.val (.ref b), .val (.long q1), .second, .val (.ref t)] [])
  refine own_go (fun t_ k_ => XS.aloadN X36.here hx rfl (hb hby d1_206) rfl rfl k_) ?_
  show own_Go p e below _ T36 (mkF m 207 #[.val (.ref b), .val (.long q1), .second, .val (.ref t)] [(.ref b)])
  refine own_go (fun t_ k_ => XS.bipush X36.here hx rfl (hb hby d1_207) k_) ?_
  show own_Go p e below _ T36 (mkF m 209 #[.val (.ref b), .val (.long q1), .second, .val (.ref t)] [(.int (19 : Int32)), (.ref b)])
  refine own_go (fun t_ k_ => XS.lloadN X36.here hx rfl (hb hby d1_209) rfl k_) ?_
  show own_Go p e below _ T36 (mkF m 210 #[.val (.ref b), .val (.long q1), .second, .val (.ref t)] [(.long q1), (.int (19 : Int32)), (.ref b)])
  refine own_go (fun t_ k_ => XS.aloadN X36.here hx rfl (hb hby d1_210) rfl rfl k_) ?_
  show own_Go p e below _ T36 (mkF m 211 #[.val (.ref b), .val (.long q1), .second, .val (.ref t)] [(.ref t), (.long q1), (.int (19 : Int32)), (.ref b)])
  refine own_go (fun t_ k_ => XS.iconst X36.here hx rfl (hb hby d1_211) k_) ?_
  show own_Go p e below _ T36 (mkF m 212 #[.val (.ref b), .val (.long q1), .second, .val (.ref t)] [(.int (0 : Int32)), (.ref t), (.long q1), (.int (19 : Int32)), (.ref b)])
  refine own_go (own_ldLA X36 hx hZ e36 (Ls := #[.val (.ref b), .val (.long q1), .second, .val (.ref t)]) (rest := [(.long q1), (.int (19 : Int32)), (.ref b)]) ((((((((((((((((((V_t.other W2 (Ne.symm hbt)).other W4 (Ne.symm hbt)).other W6 (Ne.symm hbt)).other W8 (Ne.symm hbt)).other W10 (Ne.symm hbt)).other W12 (Ne.symm hbt)).other W14 (Ne.symm hbt)).other W16 (Ne.symm hbt)).other W18 (Ne.symm hbt)).other W20 (Ne.symm hbt)).other W22 (Ne.symm hbt)).other W24 (Ne.symm hbt)).other W26 (Ne.symm hbt)).other W28 (Ne.symm hbt)).other W30 (Ne.symm hbt)).other W32 (Ne.symm hbt)).other W34 (Ne.symm hbt)).other W36 (Ne.symm hbt)) (by decide) 0 (by decide) (hb hby d1_212)) ?_
  show own_Go p e below _ T36 (mkF m 213 #[.val (.ref b), .val (.long q1), .second, .val (.ref t)] [(.long (own_ten 0)), (.long q1), (.int (19 : Int32)), (.ref b)])
  obtain ⟨_, T37, L37, X37, ⟨rfl, N37, e37⟩, st37⟩ := own_callS X36 hx hZ (y := (⟨"com/example/gridtally/gridtally/core/DecimalsIntegerPinLaw", "dig", "(JJ)B"⟩ : MethodName)) (argsL := [(.long q1), (.long (own_ten 0))]) (rest := [(.int (19 : Int32)), (.ref b)]) (Ls := #[.val (.ref b), .val (.long q1), .second, .val (.ref t)]) hown (own_w hw 25 rfl) (own_w hw 26 rfl) (own_w hw 23 rfl) (own_w hw 27 rfl) (by decide) e36 (rmDig l Z a0 hw [] q1 (own_ten 0) h36 n0 (own_oldge old36) (own_tenNe (by decide))) 2 (by decide) (by decide) (by decide) (by decide) (by rw [hml]; rfl) (lenOf pd_6 rfl) rfl (Nat.le_of_eq rfl) (hb hby d1_213)
  have M37 := Fr.app N36 N37
  refine own_go st37 ?_
  show own_Go p e below _ T37 (mkF m 216 #[.val (.ref b), .val (.long q1), .second, .val (.ref t)] [(.int (own_dg q1 (own_ten 0))), (.int (19 : Int32)), (.ref b)])
  obtain ⟨T38, h38, L38, X38, N38, e38, W38, V38, st38⟩ := own_stB X37 hx hZ e37 (j := (19 : Int32)) (vs' := [(.int (0 : Int32)), (.int (own_dg q1 (own_ten 18))), (.int (own_dg q1 (own_ten 17))), (.int (own_dg q1 (own_ten 16))), (.int (own_dg q1 (own_ten 15))), (.int (own_dg q1 (own_ten 14))), (.int (own_dg q1 (own_ten 13))), (.int (own_dg q1 (own_ten 12))), (.int (own_dg q1 (own_ten 11))), (.int (own_dg q1 (own_ten 10))), (.int (own_dg q1 (own_ten 9))), (.int (own_dg q1 (own_ten 8))), (.int (own_dg q1 (own_ten 7))), (.int (own_dg q1 (own_ten 6))), (.int (own_dg q1 (own_ten 5))), (.int (own_dg q1 (own_ten 4))), (.int (own_dg q1 (own_ten 3))), (.int (own_dg q1 (own_ten 2))), (.int (own_dg q1 (own_ten 1))), (.int (own_dg q1 (own_ten 0))), (.int (0 : Int32))]) V36 (own_dgByte _ _) (by decide) 19 rfl (Nat.le_of_ble_eq_true rfl) rfl M37 ge_b (Ls := #[.val (.ref b), .val (.long q1), .second, .val (.ref t)]) (rest := []) (hb hby d1_216)
  have old38 := old36.wr W38 ge_b
  refine own_go st38 ?_
  show own_Go p e below _ T38 (mkF m 217 #[.val (.ref b), .val (.long q1), .second, .val (.ref t)] [])
  refine own_retV X38 hx hlk hret (hb hby d1_217) (by decide) (by decide) ?_
  exact ⟨rfl, by rw [e38]; exact old38, by rw [e38]; exact own_BA_of V38 rfl (own_putList q1), by rw [e38]; exact (((((((((((((((((((V_t.other W2 (Ne.symm hbt)).other W4 (Ne.symm hbt)).other W6 (Ne.symm hbt)).other W8 (Ne.symm hbt)).other W10 (Ne.symm hbt)).other W12 (Ne.symm hbt)).other W14 (Ne.symm hbt)).other W16 (Ne.symm hbt)).other W18 (Ne.symm hbt)).other W20 (Ne.symm hbt)).other W22 (Ne.symm hbt)).other W24 (Ne.symm hbt)).other W26 (Ne.symm hbt)).other W28 (Ne.symm hbt)).other W30 (Ne.symm hbt)).other W32 (Ne.symm hbt)).other W34 (Ne.symm hbt)).other W36 (Ne.symm hbt)).other W38 (Ne.symm hbt)), N38⟩
set_option maxRecDepth 65536 in
set_option maxHeartbeats 40000000 in
theorem rmSc (l : Launch) (Z : State) (a0 : Array Value) (hw : ∀ d ∈ tables_1, d.before a0 Z = true) (ws : List Jvm.Cond) (b : Addr) (f : Nat → Int32) (a t : Nat) (h0 : Heap) (n0 : Nat) (Z0 : n0 ≤ h0.size) (V1 : own_BA Z h0 b 21 f) (ha : a ≤ t) (ht : t ≤ 21) :
    own_Met l Z (⟨"com/example/gridtally/gridtally/core/Decimals", "scale", "([BII)I"⟩ : MethodName) prog_20_method_6_code 8 (some .int) ws ({ frames := 1, cells := 0, slots := 0, locals := 12 } : Room) #[(.ref b), (.int (Int32.ofNat a)), (.int (Int32.ofNat t))] h0 (fun v h L => (∃ r : Int32, v = some (.int r) ∧ (r = 0 ↔ own_G f a t)) ∧ Fr n0 L ∧ h = h0) := by
  refine own_body (by first | exact plainFor_of_name pn_com_example_gridtally_gridtally_core_Decimals | decide +kernel) ?_
  intro p e s m below meth c T0 X0 hx hby hml hret hlk hZ hown hnm e0
  have hown : s.vm.findClass "com/example/gridtally/gridtally/core/Decimals" = some m.cls := hown
  have hnm : meth.name = "scale" := hnm
  have N0 := Fr.nil n0
  rw [ef_4 m b (Int32.ofNat a) (Int32.ofNat t)]
  show own_Go p e below _ T0 (mkF m 0 #[.val (.ref b), .val (.int (Int32.ofNat a)), .val (.int (Int32.ofNat t)), .unset, .unset, .unset, .unset, .unset] [])
  refine own_go (fun t_ k_ => XS.iloadN X0.here hx rfl (hb hby d4_0) rfl k_) ?_
  show own_Go p e below _ T0 (mkF m 1 #[.val (.ref b), .val (.int (Int32.ofNat a)), .val (.int (Int32.ofNat t)), .unset, .unset, .unset, .unset, .unset] [(.int (Int32.ofNat a))])
  refine own_go (fun t_ k_ => XS.iloadN X0.here hx rfl (hb hby d4_1) rfl k_) ?_
  show own_Go p e below _ T0 (mkF m 2 #[.val (.ref b), .val (.int (Int32.ofNat a)), .val (.int (Int32.ofNat t)), .unset, .unset, .unset, .unset, .unset] [(.int (Int32.ofNat t)), (.int (Int32.ofNat a))])
  have j20 : ∀  (Tj : State) (Lj : List Loc) (Xj : Stand p l e ({ frames := 1, cells := 0, slots := 0, locals := 12 } : Room) s m #[(.ref b), (.int (Int32.ofNat a)), (.int (Int32.ofNat t))] below meth c Tj Lj 0 0) (Nj : Fr n0 Lj) (ej : Tj.heap = h0), own_Go p e below (own_K (fun v h L => (∃ r : Int32, v = some (.int r) ∧ (r = 0 ↔ own_G f a t)) ∧ Fr n0 L ∧ h = h0) s ({ frames := 1, cells := 0, slots := 0, locals := 12 } : Room).cells ({ frames := 1, cells := 0, slots := 0, locals := 12 } : Room).slots) Tj (mkF m 20 #[.val (.ref b), .val (.int (Int32.ofNat a)), .val (.int (Int32.ofNat t)), .unset, .unset, .unset, .unset, .unset] [(.int (Int32.ofNat (own_st f a t)))]) := by
    intro Tj Lj Xj Nj ej
    obtain ⟨q, hq⟩ : ∃ q, q = own_st f a t := ⟨_, rfl⟩
    rw [← hq]
    show own_Go p e below _ Tj (mkF m 20 #[.val (.ref b), .val (.int (Int32.ofNat a)), .val (.int (Int32.ofNat t)), .unset, .unset, .unset, .unset, .unset] [(.int (Int32.ofNat q))])
    have hqt : q ≤ t := by rw [hq]; unfold own_st; split <;> omega
    have hG : own_G f a t ↔ (∀ j, q ≤ j → j < t → own_dig (f j)) ∧ q < t ∧ t - q ≤ 18 := by unfold own_G; rw [← hq]
    refine own_go (fun t_ k_ => XS.istoreN Xj.here hx rfl (hb hby d4_20) rfl (l' := #[.val (.ref b), .val (.int (Int32.ofNat a)), .val (.int (Int32.ofNat t)), .val (.int (Int32.ofNat q)), .unset, .unset, .unset, .unset]) rfl k_) ?_
    show own_Go p e below _ Tj (mkF m 21 #[.val (.ref b), .val (.int (Int32.ofNat a)), .val (.int (Int32.ofNat t)), .val (.int (Int32.ofNat q)), .unset, .unset, .unset, .unset] [])
    refine own_go (fun t_ k_ => XS.iloadN Xj.here hx rfl (hb hby d4_21) rfl k_) ?_
    show own_Go p e below _ Tj (mkF m 22 #[.val (.ref b), .val (.int (Int32.ofNat a)), .val (.int (Int32.ofNat t)), .val (.int (Int32.ofNat q)), .unset, .unset, .unset, .unset] [(.int (Int32.ofNat q))])
    refine own_go (fun t_ k_ => XS.istore Xj.here hx rfl (hb hby d4_22) rfl (l' := #[.val (.ref b), .val (.int (Int32.ofNat a)), .val (.int (Int32.ofNat t)), .val (.int (Int32.ofNat q)), .val (.int (Int32.ofNat q)), .unset, .unset, .unset]) rfl k_) ?_
    show own_Go p e below _ Tj (mkF m 24 #[.val (.ref b), .val (.int (Int32.ofNat a)), .val (.int (Int32.ofNat t)), .val (.int (Int32.ofNat q)), .val (.int (Int32.ofNat q)), .unset, .unset, .unset] [])
    have ex1 : ∀ (i : Nat) (Tx : State) (Lx : List Loc) (Xx : Stand p l e ({ frames := 1, cells := 0, slots := 0, locals := 12 } : Room) s m #[(.ref b), (.int (Int32.ofNat a)), (.int (Int32.ofNat t))] below meth c Tx Lx 0 0) (Nx : Fr n0 Lx) (ex : Tx.heap = h0) (g1 : q ≤ i) (g2 : i ≤ t) (g3 : ∀ j, q ≤ j → j < i → own_dig (f j)) (g4 : i = t ∨ ¬ own_dig (f i)), own_Go p e below (own_K (fun v h L => (∃ r : Int32, v = some (.int r) ∧ (r = 0 ↔ own_G f a t)) ∧ Fr n0 L ∧ h = h0) s ({ frames := 1, cells := 0, slots := 0, locals := 12 } : Room).cells ({ frames := 1, cells := 0, slots := 0, locals := 12 } : Room).slots) Tx (mkF m 44 #[.val (.ref b), .val (.int (Int32.ofNat a)), .val (.int (Int32.ofNat t)), .val (.int (Int32.ofNat i)), .val (.int (Int32.ofNat q)), .unset, .unset, .unset] []) := by
      intro i Tx Lx Xx Nx ex g1 g2 g3 g4
      refine own_go (fun t_ k_ => XS.iloadN Xx.here hx rfl (hb hby d4_44) rfl k_) ?_
      show own_Go p e below _ Tx (mkF m 45 #[.val (.ref b), .val (.int (Int32.ofNat a)), .val (.int (Int32.ofNat t)), .val (.int (Int32.ofNat i)), .val (.int (Int32.ofNat q)), .unset, .unset, .unset] [(.int (Int32.ofNat i))])
      refine own_go (fun t_ k_ => XS.iload Xx.here hx rfl (hb hby d4_45) rfl k_) ?_
      show own_Go p e below _ Tx (mkF m 47 #[.val (.ref b), .val (.int (Int32.ofNat a)), .val (.int (Int32.ofNat t)), .val (.int (Int32.ofNat i)), .val (.int (Int32.ofNat q)), .unset, .unset, .unset] [(.int (Int32.ofNat q)), (.int (Int32.ofNat i))])
      by_cases h47 : i = q
      · show own_Go p e below _ Tx (mkF m 47 #[.val (.ref b), .val (.int (Int32.ofNat a)), .val (.int (Int32.ofNat t)), .val (.int (Int32.ofNat i)), .val (.int (Int32.ofNat q)), .unset, .unset, .unset] [(.int (Int32.ofNat q)), (.int (Int32.ofNat i))])
        refine own_go (fun t_ k_ => XS.icmpNo Xx.here hx rfl (hb hby d4_47) rfl (XT.ii_ne_f ((own_oEq (by omega) (by omega)).mpr h47)) k_) ?_
        show own_Go p e below _ Tx (mkF m 50 #[.val (.ref b), .val (.int (Int32.ofNat a)), .val (.int (Int32.ofNat t)), .val (.int (Int32.ofNat i)), .val (.int (Int32.ofNat q)), .unset, .unset, .unset] [])
        refine own_go (fun t_ k_ => XS.iconst Xx.here hx rfl (hb hby d4_50) k_) ?_
        show own_Go p e below _ Tx (mkF m 51 #[.val (.ref b), .val (.int (Int32.ofNat a)), .val (.int (Int32.ofNat t)), .val (.int (Int32.ofNat i)), .val (.int (Int32.ofNat q)), .unset, .unset, .unset] [(.int (-1 : Int32))])
        refine own_retI Xx hx hlk hret (hb hby d4_51) (by decide) (by decide) ?_
        exact ⟨⟨(-1 : Int32), rfl, ⟨fun z => absurd z (by decide), fun z => (own_nG (q := q) (i := i) g4 (hG.mp z) (by omega)).elim⟩⟩, Nx, ex⟩
      · show own_Go p e below _ Tx (mkF m 47 #[.val (.ref b), .val (.int (Int32.ofNat a)), .val (.int (Int32.ofNat t)), .val (.int (Int32.ofNat i)), .val (.int (Int32.ofNat q)), .unset, .unset, .unset] [(.int (Int32.ofNat q)), (.int (Int32.ofNat i))])
        refine own_go (fun t_ k_ => XS.icmpYes Xx.here hx rfl (pc0 := 47) (pc' := 52) rfl (hb hby d4_47) rfl (XT.ii_ne_t (fun q => h47 ((own_oEq (by omega) (by omega)).mp q))) (by decide) (by decide) k_) ?_
        show own_Go p e below _ Tx (mkF m 52 #[.val (.ref b), .val (.int (Int32.ofNat a)), .val (.int (Int32.ofNat t)), .val (.int (Int32.ofNat i)), .val (.int (Int32.ofNat q)), .unset, .unset, .unset] [])
        refine own_go (fun t_ k_ => XS.iloadN Xx.here hx rfl (hb hby d4_52) rfl k_) ?_
        show own_Go p e below _ Tx (mkF m 53 #[.val (.ref b), .val (.int (Int32.ofNat a)), .val (.int (Int32.ofNat t)), .val (.int (Int32.ofNat i)), .val (.int (Int32.ofNat q)), .unset, .unset, .unset] [(.int (Int32.ofNat i))])
        refine own_go (fun t_ k_ => XS.iload Xx.here hx rfl (hb hby d4_53) rfl k_) ?_
        show own_Go p e below _ Tx (mkF m 55 #[.val (.ref b), .val (.int (Int32.ofNat a)), .val (.int (Int32.ofNat t)), .val (.int (Int32.ofNat i)), .val (.int (Int32.ofNat q)), .unset, .unset, .unset] [(.int (Int32.ofNat q)), (.int (Int32.ofNat i))])
        refine own_go (fun t_ k_ => XS.isub Xx.here hx rfl (hb hby d4_55) rfl k_) ?_
        show own_Go p e below _ Tx (mkF m 56 #[.val (.ref b), .val (.int (Int32.ofNat a)), .val (.int (Int32.ofNat t)), .val (.int (Int32.ofNat i)), .val (.int (Int32.ofNat q)), .unset, .unset, .unset] [(.int ((Int32.ofNat i) - (Int32.ofNat q)))])
        rw [show ((Int32.ofNat i) - (Int32.ofNat q)) = (Int32.ofNat (i - q)) from own_oSub (a := i) (b := q) (by omega) (by omega)]
        show own_Go p e below _ Tx (mkF m 56 #[.val (.ref b), .val (.int (Int32.ofNat a)), .val (.int (Int32.ofNat t)), .val (.int (Int32.ofNat i)), .val (.int (Int32.ofNat q)), .unset, .unset, .unset] [(.int (Int32.ofNat (i - q)))])
        refine own_go (fun t_ k_ => XS.istore Xx.here hx rfl (hb hby d4_56) rfl (l' := #[.val (.ref b), .val (.int (Int32.ofNat a)), .val (.int (Int32.ofNat t)), .val (.int (Int32.ofNat i)), .val (.int (Int32.ofNat q)), .val (.int (Int32.ofNat (i - q))), .unset, .unset]) rfl k_) ?_
        show own_Go p e below _ Tx (mkF m 58 #[.val (.ref b), .val (.int (Int32.ofNat a)), .val (.int (Int32.ofNat t)), .val (.int (Int32.ofNat i)), .val (.int (Int32.ofNat q)), .val (.int (Int32.ofNat (i - q))), .unset, .unset] [])
        refine own_go (fun t_ k_ => XS.iconst Xx.here hx rfl (hb hby d4_58) k_) ?_
        show own_Go p e below _ Tx (mkF m 59 #[.val (.ref b), .val (.int (Int32.ofNat a)), .val (.int (Int32.ofNat t)), .val (.int (Int32.ofNat i)), .val (.int (Int32.ofNat q)), .val (.int (Int32.ofNat (i - q))), .unset, .unset] [(.int (0 : Int32))])
        refine own_go (fun t_ k_ => XS.istore Xx.here hx rfl (hb hby d4_59) rfl (l' := #[.val (.ref b), .val (.int (Int32.ofNat a)), .val (.int (Int32.ofNat t)), .val (.int (Int32.ofNat i)), .val (.int (Int32.ofNat q)), .val (.int (Int32.ofNat (i - q))), .val (.int (0 : Int32)), .unset]) rfl k_) ?_
        show own_Go p e below _ Tx (mkF m 61 #[.val (.ref b), .val (.int (Int32.ofNat a)), .val (.int (Int32.ofNat t)), .val (.int (Int32.ofNat i)), .val (.int (Int32.ofNat q)), .val (.int (Int32.ofNat (i - q))), .val (.int (0 : Int32)), .unset] [])
        refine own_go (fun t_ k_ => XS.iloadN Xx.here hx rfl (hb hby d4_61) rfl k_) ?_
        show own_Go p e below _ Tx (mkF m 62 #[.val (.ref b), .val (.int (Int32.ofNat a)), .val (.int (Int32.ofNat t)), .val (.int (Int32.ofNat i)), .val (.int (Int32.ofNat q)), .val (.int (Int32.ofNat (i - q))), .val (.int (0 : Int32)), .unset] [(.int (Int32.ofNat i))])
        refine own_go (fun t_ k_ => XS.iloadN Xx.here hx rfl (hb hby d4_62) rfl k_) ?_
        show own_Go p e below _ Tx (mkF m 63 #[.val (.ref b), .val (.int (Int32.ofNat a)), .val (.int (Int32.ofNat t)), .val (.int (Int32.ofNat i)), .val (.int (Int32.ofNat q)), .val (.int (Int32.ofNat (i - q))), .val (.int (0 : Int32)), .unset] [(.int (Int32.ofNat t)), (.int (Int32.ofNat i))])
        by_cases h63 : i < t
        · show own_Go p e below _ Tx (mkF m 63 #[.val (.ref b), .val (.int (Int32.ofNat a)), .val (.int (Int32.ofNat t)), .val (.int (Int32.ofNat i)), .val (.int (Int32.ofNat q)), .val (.int (Int32.ofNat (i - q))), .val (.int (0 : Int32)), .unset] [(.int (Int32.ofNat t)), (.int (Int32.ofNat i))])
          refine own_go (fun t_ k_ => XS.icmpNo Xx.here hx rfl (hb hby d4_63) rfl (XT.ii_ge_f ((own_oLt (by omega) (by omega)).mpr h63)) k_) ?_
          show own_Go p e below _ Tx (mkF m 66 #[.val (.ref b), .val (.int (Int32.ofNat a)), .val (.int (Int32.ofNat t)), .val (.int (Int32.ofNat i)), .val (.int (Int32.ofNat q)), .val (.int (Int32.ofNat (i - q))), .val (.int (0 : Int32)), .unset] [])
          refine own_go (fun t_ k_ => XS.aloadN Xx.here hx rfl (hb hby d4_66) rfl rfl k_) ?_
          show own_Go p e below _ Tx (mkF m 67 #[.val (.ref b), .val (.int (Int32.ofNat a)), .val (.int (Int32.ofNat t)), .val (.int (Int32.ofNat i)), .val (.int (Int32.ofNat q)), .val (.int (Int32.ofNat (i - q))), .val (.int (0 : Int32)), .unset] [(.ref b)])
          refine own_go (fun t_ k_ => XS.iloadN Xx.here hx rfl (hb hby d4_67) rfl k_) ?_
          show own_Go p e below _ Tx (mkF m 68 #[.val (.ref b), .val (.int (Int32.ofNat a)), .val (.int (Int32.ofNat t)), .val (.int (Int32.ofNat i)), .val (.int (Int32.ofNat q)), .val (.int (Int32.ofNat (i - q))), .val (.int (0 : Int32)), .unset] [(.int (Int32.ofNat i)), (.ref b)])
          refine own_go (own_ldBA Xx hx hZ ex (Ls := #[.val (.ref b), .val (.int (Int32.ofNat a)), .val (.int (Int32.ofNat t)), .val (.int (Int32.ofNat i)), .val (.int (Int32.ofNat q)), .val (.int (Int32.ofNat (i - q))), .val (.int (0 : Int32)), .unset]) (rest := []) V1 (by decide) i (by omega) (hb hby d4_68)) ?_
          show own_Go p e below _ Tx (mkF m 69 #[.val (.ref b), .val (.int (Int32.ofNat a)), .val (.int (Int32.ofNat t)), .val (.int (Int32.ofNat i)), .val (.int (Int32.ofNat q)), .val (.int (Int32.ofNat (i - q))), .val (.int (0 : Int32)), .unset] [(.int (f i))])
          refine own_go (fun t_ k_ => XS.bipush Xx.here hx rfl (hb hby d4_69) k_) ?_
          show own_Go p e below _ Tx (mkF m 71 #[.val (.ref b), .val (.int (Int32.ofNat a)), .val (.int (Int32.ofNat t)), .val (.int (Int32.ofNat i)), .val (.int (Int32.ofNat q)), .val (.int (Int32.ofNat (i - q))), .val (.int (0 : Int32)), .unset] [(.int (46 : Int32)), (.int (f i))])
          by_cases h71 : (f i) = (46 : Int32)
          · show own_Go p e below _ Tx (mkF m 71 #[.val (.ref b), .val (.int (Int32.ofNat a)), .val (.int (Int32.ofNat t)), .val (.int (Int32.ofNat i)), .val (.int (Int32.ofNat q)), .val (.int (Int32.ofNat (i - q))), .val (.int (0 : Int32)), .unset] [(.int (46 : Int32)), (.int (f i))])
            refine own_go (fun t_ k_ => XS.icmpNo Xx.here hx rfl (hb hby d4_71) rfl (XT.ii_ne_f h71) k_) ?_
            show own_Go p e below _ Tx (mkF m 74 #[.val (.ref b), .val (.int (Int32.ofNat a)), .val (.int (Int32.ofNat t)), .val (.int (Int32.ofNat i)), .val (.int (Int32.ofNat q)), .val (.int (Int32.ofNat (i - q))), .val (.int (0 : Int32)), .unset] [])
            refine own_go (fun t_ k_ => XS.iinc Xx.here hx rfl (hb hby d4_74) rfl (l' := #[.val (.ref b), .val (.int (Int32.ofNat a)), .val (.int (Int32.ofNat t)), .val (.int ((Int32.ofNat i) + (1 : Int32))), .val (.int (Int32.ofNat q)), .val (.int (Int32.ofNat (i - q))), .val (.int (0 : Int32)), .unset]) rfl k_) ?_
            show own_Go p e below _ Tx (mkF m 77 #[.val (.ref b), .val (.int (Int32.ofNat a)), .val (.int (Int32.ofNat t)), .val (.int ((Int32.ofNat i) + (1 : Int32))), .val (.int (Int32.ofNat q)), .val (.int (Int32.ofNat (i - q))), .val (.int (0 : Int32)), .unset] [])
            rw [show ((Int32.ofNat i) + (1 : Int32)) = Int32.ofNat (i + 1) from own_oAdd i 1]
            show own_Go p e below _ Tx (mkF m 77 #[.val (.ref b), .val (.int (Int32.ofNat a)), .val (.int (Int32.ofNat t)), .val (.int (Int32.ofNat (i + 1))), .val (.int (Int32.ofNat q)), .val (.int (Int32.ofNat (i - q))), .val (.int (0 : Int32)), .unset] [])
            refine own_go (fun t_ k_ => XS.iloadN Xx.here hx rfl (hb hby d4_77) rfl k_) ?_
            show own_Go p e below _ Tx (mkF m 78 #[.val (.ref b), .val (.int (Int32.ofNat a)), .val (.int (Int32.ofNat t)), .val (.int (Int32.ofNat (i + 1))), .val (.int (Int32.ofNat q)), .val (.int (Int32.ofNat (i - q))), .val (.int (0 : Int32)), .unset] [(.int (Int32.ofNat (i + 1)))])
            refine own_go (fun t_ k_ => XS.istore Xx.here hx rfl (hb hby d4_78) rfl (l' := #[.val (.ref b), .val (.int (Int32.ofNat a)), .val (.int (Int32.ofNat t)), .val (.int (Int32.ofNat (i + 1))), .val (.int (Int32.ofNat q)), .val (.int (Int32.ofNat (i - q))), .val (.int (0 : Int32)), .val (.int (Int32.ofNat (i + 1)))]) rfl k_) ?_
            show own_Go p e below _ Tx (mkF m 80 #[.val (.ref b), .val (.int (Int32.ofNat a)), .val (.int (Int32.ofNat t)), .val (.int (Int32.ofNat (i + 1))), .val (.int (Int32.ofNat q)), .val (.int (Int32.ofNat (i - q))), .val (.int (0 : Int32)), .val (.int (Int32.ofNat (i + 1)))] [])
            have ex2 : ∀ (i2 : Nat) (Tu : State) (Lu : List Loc) (Xu : Stand p l e ({ frames := 1, cells := 0, slots := 0, locals := 12 } : Room) s m #[(.ref b), (.int (Int32.ofNat a)), (.int (Int32.ofNat t))] below meth c Tu Lu 0 0) (Nu : Fr n0 Lu) (eu : Tu.heap = h0) (k1 : i + 1 ≤ i2) (k2 : i2 ≤ t), own_Go p e below (own_K (fun v h L => (∃ r : Int32, v = some (.int r) ∧ (r = 0 ↔ own_G f a t)) ∧ Fr n0 L ∧ h = h0) s ({ frames := 1, cells := 0, slots := 0, locals := 12 } : Room).cells ({ frames := 1, cells := 0, slots := 0, locals := 12 } : Room).slots) Tu (mkF m 100 #[.val (.ref b), .val (.int (Int32.ofNat a)), .val (.int (Int32.ofNat t)), .val (.int (Int32.ofNat i2)), .val (.int (Int32.ofNat q)), .val (.int (Int32.ofNat (i - q))), .val (.int (0 : Int32)), .val (.int (Int32.ofNat (i + 1)))] []) := by
              intro i2 Tu Lu Xu Nu eu k1 k2
              refine own_go (fun t_ k_ => XS.iloadN Xu.here hx rfl (hb hby d4_100) rfl k_) ?_
              show own_Go p e below _ Tu (mkF m 101 #[.val (.ref b), .val (.int (Int32.ofNat a)), .val (.int (Int32.ofNat t)), .val (.int (Int32.ofNat i2)), .val (.int (Int32.ofNat q)), .val (.int (Int32.ofNat (i - q))), .val (.int (0 : Int32)), .val (.int (Int32.ofNat (i + 1)))] [(.int (Int32.ofNat i2))])
              refine own_go (fun t_ k_ => XS.iload Xu.here hx rfl (hb hby d4_101) rfl k_) ?_
              show own_Go p e below _ Tu (mkF m 103 #[.val (.ref b), .val (.int (Int32.ofNat a)), .val (.int (Int32.ofNat t)), .val (.int (Int32.ofNat i2)), .val (.int (Int32.ofNat q)), .val (.int (Int32.ofNat (i - q))), .val (.int (0 : Int32)), .val (.int (Int32.ofNat (i + 1)))] [(.int (Int32.ofNat (i + 1))), (.int (Int32.ofNat i2))])
              by_cases h103 : i2 = i + 1
              · show own_Go p e below _ Tu (mkF m 103 #[.val (.ref b), .val (.int (Int32.ofNat a)), .val (.int (Int32.ofNat t)), .val (.int (Int32.ofNat i2)), .val (.int (Int32.ofNat q)), .val (.int (Int32.ofNat (i - q))), .val (.int (0 : Int32)), .val (.int (Int32.ofNat (i + 1)))] [(.int (Int32.ofNat (i + 1))), (.int (Int32.ofNat i2))])
                refine own_go (fun t_ k_ => XS.icmpNo Xu.here hx rfl (hb hby d4_103) rfl (XT.ii_ne_f ((own_oEq (by omega) (by omega)).mpr h103)) k_) ?_
                show own_Go p e below _ Tu (mkF m 106 #[.val (.ref b), .val (.int (Int32.ofNat a)), .val (.int (Int32.ofNat t)), .val (.int (Int32.ofNat i2)), .val (.int (Int32.ofNat q)), .val (.int (Int32.ofNat (i - q))), .val (.int (0 : Int32)), .val (.int (Int32.ofNat (i + 1)))] [])
                refine own_go (fun t_ k_ => XS.iconst Xu.here hx rfl (hb hby d4_106) k_) ?_
                show own_Go p e below _ Tu (mkF m 107 #[.val (.ref b), .val (.int (Int32.ofNat a)), .val (.int (Int32.ofNat t)), .val (.int (Int32.ofNat i2)), .val (.int (Int32.ofNat q)), .val (.int (Int32.ofNat (i - q))), .val (.int (0 : Int32)), .val (.int (Int32.ofNat (i + 1)))] [(.int (-1 : Int32))])
                refine own_retI Xu hx hlk hret (hb hby d4_107) (by decide) (by decide) ?_
                exact ⟨⟨(-1 : Int32), rfl, ⟨fun z => absurd z (by decide), fun z => absurd (hG.mp z) (fun y => own_dig46 (h71 ▸ y.1 i (by omega) (by omega)))⟩⟩, Nu, eu⟩
              · show own_Go p e below _ Tu (mkF m 103 #[.val (.ref b), .val (.int (Int32.ofNat a)), .val (.int (Int32.ofNat t)), .val (.int (Int32.ofNat i2)), .val (.int (Int32.ofNat q)), .val (.int (Int32.ofNat (i - q))), .val (.int (0 : Int32)), .val (.int (Int32.ofNat (i + 1)))] [(.int (Int32.ofNat (i + 1))), (.int (Int32.ofNat i2))])
                refine own_go (fun t_ k_ => XS.icmpYes Xu.here hx rfl (pc0 := 103) (pc' := 108) rfl (hb hby d4_103) rfl (XT.ii_ne_t (fun q => h103 ((own_oEq (by omega) (by omega)).mp q))) (by decide) (by decide) k_) ?_
                show own_Go p e below _ Tu (mkF m 108 #[.val (.ref b), .val (.int (Int32.ofNat a)), .val (.int (Int32.ofNat t)), .val (.int (Int32.ofNat i2)), .val (.int (Int32.ofNat q)), .val (.int (Int32.ofNat (i - q))), .val (.int (0 : Int32)), .val (.int (Int32.ofNat (i + 1)))] [])
                refine own_go (fun t_ k_ => XS.iloadN Xu.here hx rfl (hb hby d4_108) rfl k_) ?_
                show own_Go p e below _ Tu (mkF m 109 #[.val (.ref b), .val (.int (Int32.ofNat a)), .val (.int (Int32.ofNat t)), .val (.int (Int32.ofNat i2)), .val (.int (Int32.ofNat q)), .val (.int (Int32.ofNat (i - q))), .val (.int (0 : Int32)), .val (.int (Int32.ofNat (i + 1)))] [(.int (Int32.ofNat i2))])
                refine own_go (fun t_ k_ => XS.iload Xu.here hx rfl (hb hby d4_109) rfl k_) ?_
                show own_Go p e below _ Tu (mkF m 111 #[.val (.ref b), .val (.int (Int32.ofNat a)), .val (.int (Int32.ofNat t)), .val (.int (Int32.ofNat i2)), .val (.int (Int32.ofNat q)), .val (.int (Int32.ofNat (i - q))), .val (.int (0 : Int32)), .val (.int (Int32.ofNat (i + 1)))] [(.int (Int32.ofNat (i + 1))), (.int (Int32.ofNat i2))])
                refine own_go (fun t_ k_ => XS.isub Xu.here hx rfl (hb hby d4_111) rfl k_) ?_
                show own_Go p e below _ Tu (mkF m 112 #[.val (.ref b), .val (.int (Int32.ofNat a)), .val (.int (Int32.ofNat t)), .val (.int (Int32.ofNat i2)), .val (.int (Int32.ofNat q)), .val (.int (Int32.ofNat (i - q))), .val (.int (0 : Int32)), .val (.int (Int32.ofNat (i + 1)))] [(.int ((Int32.ofNat i2) - (Int32.ofNat (i + 1))))])
                rw [show ((Int32.ofNat i2) - (Int32.ofNat (i + 1))) = (Int32.ofNat (i2 - (i + 1))) from own_oSub (a := i2) (b := (i + 1)) (by omega) (by omega)]
                show own_Go p e below _ Tu (mkF m 112 #[.val (.ref b), .val (.int (Int32.ofNat a)), .val (.int (Int32.ofNat t)), .val (.int (Int32.ofNat i2)), .val (.int (Int32.ofNat q)), .val (.int (Int32.ofNat (i - q))), .val (.int (0 : Int32)), .val (.int (Int32.ofNat (i + 1)))] [(.int (Int32.ofNat (i2 - (i + 1))))])
                refine own_go (fun t_ k_ => XS.istore Xu.here hx rfl (hb hby d4_112) rfl (l' := #[.val (.ref b), .val (.int (Int32.ofNat a)), .val (.int (Int32.ofNat t)), .val (.int (Int32.ofNat i2)), .val (.int (Int32.ofNat q)), .val (.int (Int32.ofNat (i - q))), .val (.int (Int32.ofNat (i2 - (i + 1)))), .val (.int (Int32.ofNat (i + 1)))]) rfl k_) ?_
                show own_Go p e below _ Tu (mkF m 114 #[.val (.ref b), .val (.int (Int32.ofNat a)), .val (.int (Int32.ofNat t)), .val (.int (Int32.ofNat i2)), .val (.int (Int32.ofNat q)), .val (.int (Int32.ofNat (i - q))), .val (.int (Int32.ofNat (i2 - (i + 1)))), .val (.int (Int32.ofNat (i + 1)))] [])
                refine own_go (fun t_ k_ => XS.iload Xu.here hx rfl (hb hby d4_114) rfl k_) ?_
                show own_Go p e below _ Tu (mkF m 116 #[.val (.ref b), .val (.int (Int32.ofNat a)), .val (.int (Int32.ofNat t)), .val (.int (Int32.ofNat i2)), .val (.int (Int32.ofNat q)), .val (.int (Int32.ofNat (i - q))), .val (.int (Int32.ofNat (i2 - (i + 1)))), .val (.int (Int32.ofNat (i + 1)))] [(.int (Int32.ofNat (i - q)))])
                refine own_go (fun t_ k_ => XS.iload Xu.here hx rfl (hb hby d4_116) rfl k_) ?_
                show own_Go p e below _ Tu (mkF m 118 #[.val (.ref b), .val (.int (Int32.ofNat a)), .val (.int (Int32.ofNat t)), .val (.int (Int32.ofNat i2)), .val (.int (Int32.ofNat q)), .val (.int (Int32.ofNat (i - q))), .val (.int (Int32.ofNat (i2 - (i + 1)))), .val (.int (Int32.ofNat (i + 1)))] [(.int (Int32.ofNat (i2 - (i + 1)))), (.int (Int32.ofNat (i - q)))])
                refine own_go (fun t_ k_ => XS.iadd Xu.here hx rfl (hb hby d4_118) rfl k_) ?_
                show own_Go p e below _ Tu (mkF m 119 #[.val (.ref b), .val (.int (Int32.ofNat a)), .val (.int (Int32.ofNat t)), .val (.int (Int32.ofNat i2)), .val (.int (Int32.ofNat q)), .val (.int (Int32.ofNat (i - q))), .val (.int (Int32.ofNat (i2 - (i + 1)))), .val (.int (Int32.ofNat (i + 1)))] [(.int ((Int32.ofNat (i - q)) + (Int32.ofNat (i2 - (i + 1)))))])
                rw [show ((Int32.ofNat (i - q)) + (Int32.ofNat (i2 - (i + 1)))) = (Int32.ofNat ((i - q) + (i2 - (i + 1)))) from own_oAdd (i - q) (i2 - (i + 1))]
                show own_Go p e below _ Tu (mkF m 119 #[.val (.ref b), .val (.int (Int32.ofNat a)), .val (.int (Int32.ofNat t)), .val (.int (Int32.ofNat i2)), .val (.int (Int32.ofNat q)), .val (.int (Int32.ofNat (i - q))), .val (.int (Int32.ofNat (i2 - (i + 1)))), .val (.int (Int32.ofNat (i + 1)))] [(.int (Int32.ofNat ((i - q) + (i2 - (i + 1)))))])
                refine own_go (fun t_ k_ => XS.istore Xu.here hx rfl (hb hby d4_119) rfl (l' := #[.val (.ref b), .val (.int (Int32.ofNat a)), .val (.int (Int32.ofNat t)), .val (.int (Int32.ofNat i2)), .val (.int (Int32.ofNat q)), .val (.int (Int32.ofNat ((i - q) + (i2 - (i + 1))))), .val (.int (Int32.ofNat (i2 - (i + 1)))), .val (.int (Int32.ofNat (i + 1)))]) rfl k_) ?_
                show own_Go p e below _ Tu (mkF m 121 #[.val (.ref b), .val (.int (Int32.ofNat a)), .val (.int (Int32.ofNat t)), .val (.int (Int32.ofNat i2)), .val (.int (Int32.ofNat q)), .val (.int (Int32.ofNat ((i - q) + (i2 - (i + 1))))), .val (.int (Int32.ofNat (i2 - (i + 1)))), .val (.int (Int32.ofNat (i + 1)))] [])
                refine own_go (fun t_ k_ => XS.iloadN Xu.here hx rfl (hb hby d4_121) rfl k_) ?_
                show own_Go p e below _ Tu (mkF m 122 #[.val (.ref b), .val (.int (Int32.ofNat a)), .val (.int (Int32.ofNat t)), .val (.int (Int32.ofNat i2)), .val (.int (Int32.ofNat q)), .val (.int (Int32.ofNat ((i - q) + (i2 - (i + 1))))), .val (.int (Int32.ofNat (i2 - (i + 1)))), .val (.int (Int32.ofNat (i + 1)))] [(.int (Int32.ofNat i2))])
                refine own_go (fun t_ k_ => XS.iloadN Xu.here hx rfl (hb hby d4_122) rfl k_) ?_
                show own_Go p e below _ Tu (mkF m 123 #[.val (.ref b), .val (.int (Int32.ofNat a)), .val (.int (Int32.ofNat t)), .val (.int (Int32.ofNat i2)), .val (.int (Int32.ofNat q)), .val (.int (Int32.ofNat ((i - q) + (i2 - (i + 1))))), .val (.int (Int32.ofNat (i2 - (i + 1)))), .val (.int (Int32.ofNat (i + 1)))] [(.int (Int32.ofNat t)), (.int (Int32.ofNat i2))])
                by_cases h123 : i2 = t
                · show own_Go p e below _ Tu (mkF m 123 #[.val (.ref b), .val (.int (Int32.ofNat a)), .val (.int (Int32.ofNat t)), .val (.int (Int32.ofNat i2)), .val (.int (Int32.ofNat q)), .val (.int (Int32.ofNat ((i - q) + (i2 - (i + 1))))), .val (.int (Int32.ofNat (i2 - (i + 1)))), .val (.int (Int32.ofNat (i + 1)))] [(.int (Int32.ofNat t)), (.int (Int32.ofNat i2))])
                  refine own_go (fun t_ k_ => XS.icmpYes Xu.here hx rfl (pc0 := 123) (pc' := 128) rfl (hb hby d4_123) rfl (XT.ii_eq_t ((own_oEq (by omega) (by omega)).mpr h123)) (by decide) (by decide) k_) ?_
                  show own_Go p e below _ Tu (mkF m 128 #[.val (.ref b), .val (.int (Int32.ofNat a)), .val (.int (Int32.ofNat t)), .val (.int (Int32.ofNat i2)), .val (.int (Int32.ofNat q)), .val (.int (Int32.ofNat ((i - q) + (i2 - (i + 1))))), .val (.int (Int32.ofNat (i2 - (i + 1)))), .val (.int (Int32.ofNat (i + 1)))] [])
                  refine own_go (fun t_ k_ => XS.iload Xu.here hx rfl (hb hby d4_128) rfl k_) ?_
                  show own_Go p e below _ Tu (mkF m 130 #[.val (.ref b), .val (.int (Int32.ofNat a)), .val (.int (Int32.ofNat t)), .val (.int (Int32.ofNat i2)), .val (.int (Int32.ofNat q)), .val (.int (Int32.ofNat ((i - q) + (i2 - (i + 1))))), .val (.int (Int32.ofNat (i2 - (i + 1)))), .val (.int (Int32.ofNat (i + 1)))] [(.int (Int32.ofNat ((i - q) + (i2 - (i + 1)))))])
                  refine own_go (fun t_ k_ => XS.bipush Xu.here hx rfl (hb hby d4_130) k_) ?_
                  show own_Go p e below _ Tu (mkF m 132 #[.val (.ref b), .val (.int (Int32.ofNat a)), .val (.int (Int32.ofNat t)), .val (.int (Int32.ofNat i2)), .val (.int (Int32.ofNat q)), .val (.int (Int32.ofNat ((i - q) + (i2 - (i + 1))))), .val (.int (Int32.ofNat (i2 - (i + 1)))), .val (.int (Int32.ofNat (i + 1)))] [(.int (18 : Int32)), (.int (Int32.ofNat ((i - q) + (i2 - (i + 1)))))])
                  by_cases h132 : 18 < ((i - q) + (i2 - (i + 1)))
                  · show own_Go p e below _ Tu (mkF m 132 #[.val (.ref b), .val (.int (Int32.ofNat a)), .val (.int (Int32.ofNat t)), .val (.int (Int32.ofNat i2)), .val (.int (Int32.ofNat q)), .val (.int (Int32.ofNat ((i - q) + (i2 - (i + 1))))), .val (.int (Int32.ofNat (i2 - (i + 1)))), .val (.int (Int32.ofNat (i + 1)))] [(.int (18 : Int32)), (.int (Int32.ofNat ((i - q) + (i2 - (i + 1)))))])
                    refine own_go (fun t_ k_ => XS.icmpNo Xu.here hx rfl (hb hby d4_132) rfl (XT.ii_le_f ((own_oLt (a := 18) (by omega) (by omega)).mpr h132)) k_) ?_
                    show own_Go p e below _ Tu (mkF m 135 #[.val (.ref b), .val (.int (Int32.ofNat a)), .val (.int (Int32.ofNat t)), .val (.int (Int32.ofNat i2)), .val (.int (Int32.ofNat q)), .val (.int (Int32.ofNat ((i - q) + (i2 - (i + 1))))), .val (.int (Int32.ofNat (i2 - (i + 1)))), .val (.int (Int32.ofNat (i + 1)))] [])
                    refine own_go (fun t_ k_ => XS.bipush Xu.here hx rfl (hb hby d4_135) k_) ?_
                    show own_Go p e below _ Tu (mkF m 137 #[.val (.ref b), .val (.int (Int32.ofNat a)), .val (.int (Int32.ofNat t)), .val (.int (Int32.ofNat i2)), .val (.int (Int32.ofNat q)), .val (.int (Int32.ofNat ((i - q) + (i2 - (i + 1))))), .val (.int (Int32.ofNat (i2 - (i + 1)))), .val (.int (Int32.ofNat (i + 1)))] [(.int (-2 : Int32))])
                    refine own_go (fun t_ k_ => XS.goto Xu.here hx rfl (pc0 := 137) (pc' := 142) rfl (hb hby d4_137) (by decide) (by decide) k_) ?_
                    show own_Go p e below _ Tu (mkF m 142 #[.val (.ref b), .val (.int (Int32.ofNat a)), .val (.int (Int32.ofNat t)), .val (.int (Int32.ofNat i2)), .val (.int (Int32.ofNat q)), .val (.int (Int32.ofNat ((i - q) + (i2 - (i + 1))))), .val (.int (Int32.ofNat (i2 - (i + 1)))), .val (.int (Int32.ofNat (i + 1)))] [(.int (-2 : Int32))])
                    refine own_retI Xu hx hlk hret (hb hby d4_142) (by decide) (by decide) ?_
                    exact ⟨⟨(-2 : Int32), rfl, ⟨fun z => absurd z (by decide), fun z => absurd (hG.mp z) (fun y => own_dig46 (h71 ▸ y.1 i (by omega) (by omega)))⟩⟩, Nu, eu⟩
                  · show own_Go p e below _ Tu (mkF m 132 #[.val (.ref b), .val (.int (Int32.ofNat a)), .val (.int (Int32.ofNat t)), .val (.int (Int32.ofNat i2)), .val (.int (Int32.ofNat q)), .val (.int (Int32.ofNat ((i - q) + (i2 - (i + 1))))), .val (.int (Int32.ofNat (i2 - (i + 1)))), .val (.int (Int32.ofNat (i + 1)))] [(.int (18 : Int32)), (.int (Int32.ofNat ((i - q) + (i2 - (i + 1)))))])
                    refine own_go (fun t_ k_ => XS.icmpYes Xu.here hx rfl (pc0 := 132) (pc' := 140) rfl (hb hby d4_132) rfl (XT.ii_le_t (fun q => h132 ((own_oLt (a := 18) (by omega) (by omega)).mp q))) (by decide) (by decide) k_) ?_
                    show own_Go p e below _ Tu (mkF m 140 #[.val (.ref b), .val (.int (Int32.ofNat a)), .val (.int (Int32.ofNat t)), .val (.int (Int32.ofNat i2)), .val (.int (Int32.ofNat q)), .val (.int (Int32.ofNat ((i - q) + (i2 - (i + 1))))), .val (.int (Int32.ofNat (i2 - (i + 1)))), .val (.int (Int32.ofNat (i + 1)))] [])
                    refine own_go (fun t_ k_ => XS.iload Xu.here hx rfl (hb hby d4_140) rfl k_) ?_
                    show own_Go p e below _ Tu (mkF m 142 #[.val (.ref b), .val (.int (Int32.ofNat a)), .val (.int (Int32.ofNat t)), .val (.int (Int32.ofNat i2)), .val (.int (Int32.ofNat q)), .val (.int (Int32.ofNat ((i - q) + (i2 - (i + 1))))), .val (.int (Int32.ofNat (i2 - (i + 1)))), .val (.int (Int32.ofNat (i + 1)))] [(.int (Int32.ofNat (i2 - (i + 1))))])
                    refine own_retI Xu hx hlk hret (hb hby d4_142) (by decide) (by decide) ?_
                    exact ⟨⟨(Int32.ofNat (i2 - (i + 1))), rfl, ⟨fun z => absurd ((own_oEq (b := 0) (by omega) (by omega)).mp z) (by omega), fun z => absurd (hG.mp z) (fun y => own_dig46 (h71 ▸ y.1 i (by omega) (by omega)))⟩⟩, Nu, eu⟩
                · show own_Go p e below _ Tu (mkF m 123 #[.val (.ref b), .val (.int (Int32.ofNat a)), .val (.int (Int32.ofNat t)), .val (.int (Int32.ofNat i2)), .val (.int (Int32.ofNat q)), .val (.int (Int32.ofNat ((i - q) + (i2 - (i + 1))))), .val (.int (Int32.ofNat (i2 - (i + 1)))), .val (.int (Int32.ofNat (i + 1)))] [(.int (Int32.ofNat t)), (.int (Int32.ofNat i2))])
                  refine own_go (fun t_ k_ => XS.icmpNo Xu.here hx rfl (hb hby d4_123) rfl (XT.ii_eq_f (fun q => h123 ((own_oEq (by omega) (by omega)).mp q))) k_) ?_
                  show own_Go p e below _ Tu (mkF m 126 #[.val (.ref b), .val (.int (Int32.ofNat a)), .val (.int (Int32.ofNat t)), .val (.int (Int32.ofNat i2)), .val (.int (Int32.ofNat q)), .val (.int (Int32.ofNat ((i - q) + (i2 - (i + 1))))), .val (.int (Int32.ofNat (i2 - (i + 1)))), .val (.int (Int32.ofNat (i + 1)))] [])
                  refine own_go (fun t_ k_ => XS.iconst Xu.here hx rfl (hb hby d4_126) k_) ?_
                  show own_Go p e below _ Tu (mkF m 127 #[.val (.ref b), .val (.int (Int32.ofNat a)), .val (.int (Int32.ofNat t)), .val (.int (Int32.ofNat i2)), .val (.int (Int32.ofNat q)), .val (.int (Int32.ofNat ((i - q) + (i2 - (i + 1))))), .val (.int (Int32.ofNat (i2 - (i + 1)))), .val (.int (Int32.ofNat (i + 1)))] [(.int (-1 : Int32))])
                  refine own_retI Xu hx hlk hret (hb hby d4_127) (by decide) (by decide) ?_
                  exact ⟨⟨(-1 : Int32), rfl, ⟨fun z => absurd z (by decide), fun z => absurd (hG.mp z) (fun y => own_dig46 (h71 ▸ y.1 i (by omega) (by omega)))⟩⟩, Nu, eu⟩
            have lp2 : ∀ (k : Nat) (i2 : Nat) (Tv : State) (Lv : List Loc) (Xv : Stand p l e ({ frames := 1, cells := 0, slots := 0, locals := 12 } : Room) s m #[(.ref b), (.int (Int32.ofNat a)), (.int (Int32.ofNat t))] below meth c Tv Lv 0 0) (Nv : Fr n0 Lv) (ev : Tv.heap = h0) (k0 : i2 + k = t) (k1 : i + 1 ≤ i2), own_Go p e below (own_K (fun v h L => (∃ r : Int32, v = some (.int r) ∧ (r = 0 ↔ own_G f a t)) ∧ Fr n0 L ∧ h = h0) s ({ frames := 1, cells := 0, slots := 0, locals := 12 } : Room).cells ({ frames := 1, cells := 0, slots := 0, locals := 12 } : Room).slots) Tv (mkF m 80 #[.val (.ref b), .val (.int (Int32.ofNat a)), .val (.int (Int32.ofNat t)), .val (.int (Int32.ofNat i2)), .val (.int (Int32.ofNat q)), .val (.int (Int32.ofNat (i - q))), .val (.int (0 : Int32)), .val (.int (Int32.ofNat (i + 1)))] []) := by
              intro k
              induction k with
              | zero =>
                intro i2 Tv Lv Xv Nv ev k0 k1
                show own_Go p e below _ Tv (mkF m 80 #[.val (.ref b), .val (.int (Int32.ofNat a)), .val (.int (Int32.ofNat t)), .val (.int (Int32.ofNat i2)), .val (.int (Int32.ofNat q)), .val (.int (Int32.ofNat (i - q))), .val (.int (0 : Int32)), .val (.int (Int32.ofNat (i + 1)))] [])
                refine own_go (fun t_ k_ => XS.iloadN Xv.here hx rfl (hb hby d4_80) rfl k_) ?_
                show own_Go p e below _ Tv (mkF m 81 #[.val (.ref b), .val (.int (Int32.ofNat a)), .val (.int (Int32.ofNat t)), .val (.int (Int32.ofNat i2)), .val (.int (Int32.ofNat q)), .val (.int (Int32.ofNat (i - q))), .val (.int (0 : Int32)), .val (.int (Int32.ofNat (i + 1)))] [(.int (Int32.ofNat i2))])
                refine own_go (fun t_ k_ => XS.iloadN Xv.here hx rfl (hb hby d4_81) rfl k_) ?_
                show own_Go p e below _ Tv (mkF m 82 #[.val (.ref b), .val (.int (Int32.ofNat a)), .val (.int (Int32.ofNat t)), .val (.int (Int32.ofNat i2)), .val (.int (Int32.ofNat q)), .val (.int (Int32.ofNat (i - q))), .val (.int (0 : Int32)), .val (.int (Int32.ofNat (i + 1)))] [(.int (Int32.ofNat t)), (.int (Int32.ofNat i2))])
                refine own_go (fun t_ k_ => XS.icmpYes Xv.here hx rfl (pc0 := 82) (pc' := 100) rfl (hb hby d4_82) rfl (XT.ii_ge_t (fun z => by have := (own_oLt (by omega) (by omega)).mp z; omega)) (by decide) (by decide) k_) ?_
                show own_Go p e below _ Tv (mkF m 100 #[.val (.ref b), .val (.int (Int32.ofNat a)), .val (.int (Int32.ofNat t)), .val (.int (Int32.ofNat i2)), .val (.int (Int32.ofNat q)), .val (.int (Int32.ofNat (i - q))), .val (.int (0 : Int32)), .val (.int (Int32.ofNat (i + 1)))] [])
                exact ex2 i2 Tv _ Xv Nv ev (by omega) (by omega)
              | succ k ih =>
                intro i2 Tv Lv Xv Nv ev k0 k1
                show own_Go p e below _ Tv (mkF m 80 #[.val (.ref b), .val (.int (Int32.ofNat a)), .val (.int (Int32.ofNat t)), .val (.int (Int32.ofNat i2)), .val (.int (Int32.ofNat q)), .val (.int (Int32.ofNat (i - q))), .val (.int (0 : Int32)), .val (.int (Int32.ofNat (i + 1)))] [])
                refine own_go (fun t_ k_ => XS.iloadN Xv.here hx rfl (hb hby d4_80) rfl k_) ?_
                show own_Go p e below _ Tv (mkF m 81 #[.val (.ref b), .val (.int (Int32.ofNat a)), .val (.int (Int32.ofNat t)), .val (.int (Int32.ofNat i2)), .val (.int (Int32.ofNat q)), .val (.int (Int32.ofNat (i - q))), .val (.int (0 : Int32)), .val (.int (Int32.ofNat (i + 1)))] [(.int (Int32.ofNat i2))])
                refine own_go (fun t_ k_ => XS.iloadN Xv.here hx rfl (hb hby d4_81) rfl k_) ?_
                show own_Go p e below _ Tv (mkF m 82 #[.val (.ref b), .val (.int (Int32.ofNat a)), .val (.int (Int32.ofNat t)), .val (.int (Int32.ofNat i2)), .val (.int (Int32.ofNat q)), .val (.int (Int32.ofNat (i - q))), .val (.int (0 : Int32)), .val (.int (Int32.ofNat (i + 1)))] [(.int (Int32.ofNat t)), (.int (Int32.ofNat i2))])
                refine own_go (fun t_ k_ => XS.icmpNo Xv.here hx rfl (hb hby d4_82) rfl (XT.ii_ge_f ((own_oLt (by omega) (by omega)).mpr (by omega))) k_) ?_
                show own_Go p e below _ Tv (mkF m 85 #[.val (.ref b), .val (.int (Int32.ofNat a)), .val (.int (Int32.ofNat t)), .val (.int (Int32.ofNat i2)), .val (.int (Int32.ofNat q)), .val (.int (Int32.ofNat (i - q))), .val (.int (0 : Int32)), .val (.int (Int32.ofNat (i + 1)))] [])
                refine own_go (fun t_ k_ => XS.aloadN Xv.here hx rfl (hb hby d4_85) rfl rfl k_) ?_
                show own_Go p e below _ Tv (mkF m 86 #[.val (.ref b), .val (.int (Int32.ofNat a)), .val (.int (Int32.ofNat t)), .val (.int (Int32.ofNat i2)), .val (.int (Int32.ofNat q)), .val (.int (Int32.ofNat (i - q))), .val (.int (0 : Int32)), .val (.int (Int32.ofNat (i + 1)))] [(.ref b)])
                refine own_go (fun t_ k_ => XS.iloadN Xv.here hx rfl (hb hby d4_86) rfl k_) ?_
                show own_Go p e below _ Tv (mkF m 87 #[.val (.ref b), .val (.int (Int32.ofNat a)), .val (.int (Int32.ofNat t)), .val (.int (Int32.ofNat i2)), .val (.int (Int32.ofNat q)), .val (.int (Int32.ofNat (i - q))), .val (.int (0 : Int32)), .val (.int (Int32.ofNat (i + 1)))] [(.int (Int32.ofNat i2)), (.ref b)])
                refine own_go (own_ldBA Xv hx hZ ev (Ls := #[.val (.ref b), .val (.int (Int32.ofNat a)), .val (.int (Int32.ofNat t)), .val (.int (Int32.ofNat i2)), .val (.int (Int32.ofNat q)), .val (.int (Int32.ofNat (i - q))), .val (.int (0 : Int32)), .val (.int (Int32.ofNat (i + 1)))]) (rest := []) V1 (by decide) i2 (by omega) (hb hby d4_87)) ?_
                show own_Go p e below _ Tv (mkF m 88 #[.val (.ref b), .val (.int (Int32.ofNat a)), .val (.int (Int32.ofNat t)), .val (.int (Int32.ofNat i2)), .val (.int (Int32.ofNat q)), .val (.int (Int32.ofNat (i - q))), .val (.int (0 : Int32)), .val (.int (Int32.ofNat (i + 1)))] [(.int (f i2))])
                obtain ⟨_, T1, L1, X1, ⟨rfl, N1, e1⟩, st1⟩ := own_callS Xv hx hZ (y := (⟨"com/example/gridtally/gridtally/core/Decimals", "isDigit", "(B)Z"⟩ : MethodName)) (argsL := [(.int (f i2))]) (rest := []) (Ls := #[.val (.ref b), .val (.int (Int32.ofNat a)), .val (.int (Int32.ofNat t)), .val (.int (Int32.ofNat i2)), .val (.int (Int32.ofNat q)), .val (.int (Int32.ofNat (i - q))), .val (.int (0 : Int32)), .val (.int (Int32.ofNat (i + 1)))]) hown (own_w hw 36 rfl) (own_w hw 37 rfl) (own_w hw 31 rfl) (own_w hw 38 rfl) (by decide) ev (rmIE l Z a0 hw [] (f i2) h0 n0 Z0) 0 (by decide) (by decide) (by decide) (by decide) (by rw [hml]; rfl) (lenOf pd_2 rfl) rfl (Nat.le_of_eq rfl) (hb hby d4_88)
                have M1 := Fr.app Nv N1
                refine own_go st1 ?_
                show own_Go p e below _ T1 (mkF m 91 #[.val (.ref b), .val (.int (Int32.ofNat a)), .val (.int (Int32.ofNat t)), .val (.int (Int32.ofNat i2)), .val (.int (Int32.ofNat q)), .val (.int (Int32.ofNat (i - q))), .val (.int (0 : Int32)), .val (.int (Int32.ofNat (i + 1)))] [(.int (if own_dig (f i2) then 1 else 0))])
                by_cases hd2 : ¬ own_dig (f i2)
                · show own_Go p e below _ T1 (mkF m 91 #[.val (.ref b), .val (.int (Int32.ofNat a)), .val (.int (Int32.ofNat t)), .val (.int (Int32.ofNat i2)), .val (.int (Int32.ofNat q)), .val (.int (Int32.ofNat (i - q))), .val (.int (0 : Int32)), .val (.int (Int32.ofNat (i + 1)))] [(.int (if own_dig (f i2) then 1 else 0))])
                  refine own_go (fun t_ k_ => XS.ifYes X1.here hx rfl (pc0 := 91) (pc' := 100) rfl (hb hby d4_91) rfl (XT.i0_eq_t (own_ite0.mpr hd2)) (by decide) (by decide) k_) ?_
                  show own_Go p e below _ T1 (mkF m 100 #[.val (.ref b), .val (.int (Int32.ofNat a)), .val (.int (Int32.ofNat t)), .val (.int (Int32.ofNat i2)), .val (.int (Int32.ofNat q)), .val (.int (Int32.ofNat (i - q))), .val (.int (0 : Int32)), .val (.int (Int32.ofNat (i + 1)))] [])
                  exact ex2 i2 T1 _ X1 M1 e1 (by omega) (by omega)
                · show own_Go p e below _ T1 (mkF m 91 #[.val (.ref b), .val (.int (Int32.ofNat a)), .val (.int (Int32.ofNat t)), .val (.int (Int32.ofNat i2)), .val (.int (Int32.ofNat q)), .val (.int (Int32.ofNat (i - q))), .val (.int (0 : Int32)), .val (.int (Int32.ofNat (i + 1)))] [(.int (if own_dig (f i2) then 1 else 0))])
                  refine own_go (fun t_ k_ => XS.ifNo X1.here hx rfl (hb hby d4_91) rfl (XT.i0_eq_f (fun q => hd2 (own_ite0.mp q))) k_) ?_
                  show own_Go p e below _ T1 (mkF m 94 #[.val (.ref b), .val (.int (Int32.ofNat a)), .val (.int (Int32.ofNat t)), .val (.int (Int32.ofNat i2)), .val (.int (Int32.ofNat q)), .val (.int (Int32.ofNat (i - q))), .val (.int (0 : Int32)), .val (.int (Int32.ofNat (i + 1)))] [])
                  refine own_go (fun t_ k_ => XS.iinc X1.here hx rfl (hb hby d4_94) rfl (l' := #[.val (.ref b), .val (.int (Int32.ofNat a)), .val (.int (Int32.ofNat t)), .val (.int ((Int32.ofNat i2) + (1 : Int32))), .val (.int (Int32.ofNat q)), .val (.int (Int32.ofNat (i - q))), .val (.int (0 : Int32)), .val (.int (Int32.ofNat (i + 1)))]) rfl k_) ?_
                  show own_Go p e below _ T1 (mkF m 97 #[.val (.ref b), .val (.int (Int32.ofNat a)), .val (.int (Int32.ofNat t)), .val (.int ((Int32.ofNat i2) + (1 : Int32))), .val (.int (Int32.ofNat q)), .val (.int (Int32.ofNat (i - q))), .val (.int (0 : Int32)), .val (.int (Int32.ofNat (i + 1)))] [])
                  rw [show ((Int32.ofNat i2) + (1 : Int32)) = Int32.ofNat (i2 + 1) from own_oAdd i2 1]
                  show own_Go p e below _ T1 (mkF m 97 #[.val (.ref b), .val (.int (Int32.ofNat a)), .val (.int (Int32.ofNat t)), .val (.int (Int32.ofNat (i2 + 1))), .val (.int (Int32.ofNat q)), .val (.int (Int32.ofNat (i - q))), .val (.int (0 : Int32)), .val (.int (Int32.ofNat (i + 1)))] [])
                  refine own_go (fun t_ k_ => XS.goto X1.here hx rfl (pc0 := 97) (pc' := 80) rfl (hb hby d4_97) (by decide) (by decide) k_) ?_
                  show own_Go p e below _ T1 (mkF m 80 #[.val (.ref b), .val (.int (Int32.ofNat a)), .val (.int (Int32.ofNat t)), .val (.int (Int32.ofNat (i2 + 1))), .val (.int (Int32.ofNat q)), .val (.int (Int32.ofNat (i - q))), .val (.int (0 : Int32)), .val (.int (Int32.ofNat (i + 1)))] [])
                  exact ih (i2 + 1) T1 _ X1 M1 e1 (by omega) (by omega)
            exact lp2 (t - (i + 1)) (i + 1) Tx _ Xx Nx ex (by omega) (Nat.le_refl _)
          · show own_Go p e below _ Tx (mkF m 71 #[.val (.ref b), .val (.int (Int32.ofNat a)), .val (.int (Int32.ofNat t)), .val (.int (Int32.ofNat i)), .val (.int (Int32.ofNat q)), .val (.int (Int32.ofNat (i - q))), .val (.int (0 : Int32)), .unset] [(.int (46 : Int32)), (.int (f i))])
            refine own_go (fun t_ k_ => XS.icmpYes Xx.here hx rfl (pc0 := 71) (pc' := 121) rfl (hb hby d4_71) rfl (XT.ii_ne_t h71) (by decide) (by decide) k_) ?_
            show own_Go p e below _ Tx (mkF m 121 #[.val (.ref b), .val (.int (Int32.ofNat a)), .val (.int (Int32.ofNat t)), .val (.int (Int32.ofNat i)), .val (.int (Int32.ofNat q)), .val (.int (Int32.ofNat (i - q))), .val (.int (0 : Int32)), .unset] [])
            refine own_go (fun t_ k_ => XS.iloadN Xx.here hx rfl (hb hby d4_121) rfl k_) ?_
            show own_Go p e below _ Tx (mkF m 122 #[.val (.ref b), .val (.int (Int32.ofNat a)), .val (.int (Int32.ofNat t)), .val (.int (Int32.ofNat i)), .val (.int (Int32.ofNat q)), .val (.int (Int32.ofNat (i - q))), .val (.int (0 : Int32)), .unset] [(.int (Int32.ofNat i))])
            refine own_go (fun t_ k_ => XS.iloadN Xx.here hx rfl (hb hby d4_122) rfl k_) ?_
            show own_Go p e below _ Tx (mkF m 123 #[.val (.ref b), .val (.int (Int32.ofNat a)), .val (.int (Int32.ofNat t)), .val (.int (Int32.ofNat i)), .val (.int (Int32.ofNat q)), .val (.int (Int32.ofNat (i - q))), .val (.int (0 : Int32)), .unset] [(.int (Int32.ofNat t)), (.int (Int32.ofNat i))])
            by_cases h123 : i = t
            · show own_Go p e below _ Tx (mkF m 123 #[.val (.ref b), .val (.int (Int32.ofNat a)), .val (.int (Int32.ofNat t)), .val (.int (Int32.ofNat i)), .val (.int (Int32.ofNat q)), .val (.int (Int32.ofNat (i - q))), .val (.int (0 : Int32)), .unset] [(.int (Int32.ofNat t)), (.int (Int32.ofNat i))])
              refine own_go (fun t_ k_ => XS.icmpYes Xx.here hx rfl (pc0 := 123) (pc' := 128) rfl (hb hby d4_123) rfl (XT.ii_eq_t ((own_oEq (by omega) (by omega)).mpr h123)) (by decide) (by decide) k_) ?_
              show own_Go p e below _ Tx (mkF m 128 #[.val (.ref b), .val (.int (Int32.ofNat a)), .val (.int (Int32.ofNat t)), .val (.int (Int32.ofNat i)), .val (.int (Int32.ofNat q)), .val (.int (Int32.ofNat (i - q))), .val (.int (0 : Int32)), .unset] [])
              refine own_go (fun t_ k_ => XS.iload Xx.here hx rfl (hb hby d4_128) rfl k_) ?_
              show own_Go p e below _ Tx (mkF m 130 #[.val (.ref b), .val (.int (Int32.ofNat a)), .val (.int (Int32.ofNat t)), .val (.int (Int32.ofNat i)), .val (.int (Int32.ofNat q)), .val (.int (Int32.ofNat (i - q))), .val (.int (0 : Int32)), .unset] [(.int (Int32.ofNat (i - q)))])
              refine own_go (fun t_ k_ => XS.bipush Xx.here hx rfl (hb hby d4_130) k_) ?_
              show own_Go p e below _ Tx (mkF m 132 #[.val (.ref b), .val (.int (Int32.ofNat a)), .val (.int (Int32.ofNat t)), .val (.int (Int32.ofNat i)), .val (.int (Int32.ofNat q)), .val (.int (Int32.ofNat (i - q))), .val (.int (0 : Int32)), .unset] [(.int (18 : Int32)), (.int (Int32.ofNat (i - q)))])
              by_cases h132 : 18 < (i - q)
              · show own_Go p e below _ Tx (mkF m 132 #[.val (.ref b), .val (.int (Int32.ofNat a)), .val (.int (Int32.ofNat t)), .val (.int (Int32.ofNat i)), .val (.int (Int32.ofNat q)), .val (.int (Int32.ofNat (i - q))), .val (.int (0 : Int32)), .unset] [(.int (18 : Int32)), (.int (Int32.ofNat (i - q)))])
                refine own_go (fun t_ k_ => XS.icmpNo Xx.here hx rfl (hb hby d4_132) rfl (XT.ii_le_f ((own_oLt (a := 18) (by omega) (by omega)).mpr h132)) k_) ?_
                show own_Go p e below _ Tx (mkF m 135 #[.val (.ref b), .val (.int (Int32.ofNat a)), .val (.int (Int32.ofNat t)), .val (.int (Int32.ofNat i)), .val (.int (Int32.ofNat q)), .val (.int (Int32.ofNat (i - q))), .val (.int (0 : Int32)), .unset] [])
                refine own_go (fun t_ k_ => XS.bipush Xx.here hx rfl (hb hby d4_135) k_) ?_
                show own_Go p e below _ Tx (mkF m 137 #[.val (.ref b), .val (.int (Int32.ofNat a)), .val (.int (Int32.ofNat t)), .val (.int (Int32.ofNat i)), .val (.int (Int32.ofNat q)), .val (.int (Int32.ofNat (i - q))), .val (.int (0 : Int32)), .unset] [(.int (-2 : Int32))])
                refine own_go (fun t_ k_ => XS.goto Xx.here hx rfl (pc0 := 137) (pc' := 142) rfl (hb hby d4_137) (by decide) (by decide) k_) ?_
                show own_Go p e below _ Tx (mkF m 142 #[.val (.ref b), .val (.int (Int32.ofNat a)), .val (.int (Int32.ofNat t)), .val (.int (Int32.ofNat i)), .val (.int (Int32.ofNat q)), .val (.int (Int32.ofNat (i - q))), .val (.int (0 : Int32)), .unset] [(.int (-2 : Int32))])
                refine own_retI Xx hx hlk hret (hb hby d4_142) (by decide) (by decide) ?_
                exact ⟨⟨(-2 : Int32), rfl, ⟨fun z => absurd z (by decide), fun z => (own_nG (q := q) (i := i) g4 (hG.mp z) (by omega)).elim⟩⟩, Nx, ex⟩
              · show own_Go p e below _ Tx (mkF m 132 #[.val (.ref b), .val (.int (Int32.ofNat a)), .val (.int (Int32.ofNat t)), .val (.int (Int32.ofNat i)), .val (.int (Int32.ofNat q)), .val (.int (Int32.ofNat (i - q))), .val (.int (0 : Int32)), .unset] [(.int (18 : Int32)), (.int (Int32.ofNat (i - q)))])
                refine own_go (fun t_ k_ => XS.icmpYes Xx.here hx rfl (pc0 := 132) (pc' := 140) rfl (hb hby d4_132) rfl (XT.ii_le_t (fun q => h132 ((own_oLt (a := 18) (by omega) (by omega)).mp q))) (by decide) (by decide) k_) ?_
                show own_Go p e below _ Tx (mkF m 140 #[.val (.ref b), .val (.int (Int32.ofNat a)), .val (.int (Int32.ofNat t)), .val (.int (Int32.ofNat i)), .val (.int (Int32.ofNat q)), .val (.int (Int32.ofNat (i - q))), .val (.int (0 : Int32)), .unset] [])
                refine own_go (fun t_ k_ => XS.iload Xx.here hx rfl (hb hby d4_140) rfl k_) ?_
                show own_Go p e below _ Tx (mkF m 142 #[.val (.ref b), .val (.int (Int32.ofNat a)), .val (.int (Int32.ofNat t)), .val (.int (Int32.ofNat i)), .val (.int (Int32.ofNat q)), .val (.int (Int32.ofNat (i - q))), .val (.int (0 : Int32)), .unset] [(.int (0 : Int32))])
                refine own_retI Xx hx hlk hret (hb hby d4_142) (by decide) (by decide) ?_
                exact ⟨⟨(0 : Int32), rfl, ⟨fun _ => hG.mpr ⟨fun j z1 z2 => g3 j z1 (by omega), by omega, by omega⟩, fun _ => rfl⟩⟩, Nx, ex⟩
            · show own_Go p e below _ Tx (mkF m 123 #[.val (.ref b), .val (.int (Int32.ofNat a)), .val (.int (Int32.ofNat t)), .val (.int (Int32.ofNat i)), .val (.int (Int32.ofNat q)), .val (.int (Int32.ofNat (i - q))), .val (.int (0 : Int32)), .unset] [(.int (Int32.ofNat t)), (.int (Int32.ofNat i))])
              refine own_go (fun t_ k_ => XS.icmpNo Xx.here hx rfl (hb hby d4_123) rfl (XT.ii_eq_f (fun q => h123 ((own_oEq (by omega) (by omega)).mp q))) k_) ?_
              show own_Go p e below _ Tx (mkF m 126 #[.val (.ref b), .val (.int (Int32.ofNat a)), .val (.int (Int32.ofNat t)), .val (.int (Int32.ofNat i)), .val (.int (Int32.ofNat q)), .val (.int (Int32.ofNat (i - q))), .val (.int (0 : Int32)), .unset] [])
              refine own_go (fun t_ k_ => XS.iconst Xx.here hx rfl (hb hby d4_126) k_) ?_
              show own_Go p e below _ Tx (mkF m 127 #[.val (.ref b), .val (.int (Int32.ofNat a)), .val (.int (Int32.ofNat t)), .val (.int (Int32.ofNat i)), .val (.int (Int32.ofNat q)), .val (.int (Int32.ofNat (i - q))), .val (.int (0 : Int32)), .unset] [(.int (-1 : Int32))])
              refine own_retI Xx hx hlk hret (hb hby d4_127) (by decide) (by decide) ?_
              exact ⟨⟨(-1 : Int32), rfl, ⟨fun z => absurd z (by decide), fun z => (own_nG (q := q) (i := i) g4 (hG.mp z) (by omega)).elim⟩⟩, Nx, ex⟩
        · show own_Go p e below _ Tx (mkF m 63 #[.val (.ref b), .val (.int (Int32.ofNat a)), .val (.int (Int32.ofNat t)), .val (.int (Int32.ofNat i)), .val (.int (Int32.ofNat q)), .val (.int (Int32.ofNat (i - q))), .val (.int (0 : Int32)), .unset] [(.int (Int32.ofNat t)), (.int (Int32.ofNat i))])
          refine own_go (fun t_ k_ => XS.icmpYes Xx.here hx rfl (pc0 := 63) (pc' := 121) rfl (hb hby d4_63) rfl (XT.ii_ge_t (fun q => h63 ((own_oLt (by omega) (by omega)).mp q))) (by decide) (by decide) k_) ?_
          show own_Go p e below _ Tx (mkF m 121 #[.val (.ref b), .val (.int (Int32.ofNat a)), .val (.int (Int32.ofNat t)), .val (.int (Int32.ofNat i)), .val (.int (Int32.ofNat q)), .val (.int (Int32.ofNat (i - q))), .val (.int (0 : Int32)), .unset] [])
          refine own_go (fun t_ k_ => XS.iloadN Xx.here hx rfl (hb hby d4_121) rfl k_) ?_
          show own_Go p e below _ Tx (mkF m 122 #[.val (.ref b), .val (.int (Int32.ofNat a)), .val (.int (Int32.ofNat t)), .val (.int (Int32.ofNat i)), .val (.int (Int32.ofNat q)), .val (.int (Int32.ofNat (i - q))), .val (.int (0 : Int32)), .unset] [(.int (Int32.ofNat i))])
          refine own_go (fun t_ k_ => XS.iloadN Xx.here hx rfl (hb hby d4_122) rfl k_) ?_
          show own_Go p e below _ Tx (mkF m 123 #[.val (.ref b), .val (.int (Int32.ofNat a)), .val (.int (Int32.ofNat t)), .val (.int (Int32.ofNat i)), .val (.int (Int32.ofNat q)), .val (.int (Int32.ofNat (i - q))), .val (.int (0 : Int32)), .unset] [(.int (Int32.ofNat t)), (.int (Int32.ofNat i))])
          by_cases h123 : i = t
          · show own_Go p e below _ Tx (mkF m 123 #[.val (.ref b), .val (.int (Int32.ofNat a)), .val (.int (Int32.ofNat t)), .val (.int (Int32.ofNat i)), .val (.int (Int32.ofNat q)), .val (.int (Int32.ofNat (i - q))), .val (.int (0 : Int32)), .unset] [(.int (Int32.ofNat t)), (.int (Int32.ofNat i))])
            refine own_go (fun t_ k_ => XS.icmpYes Xx.here hx rfl (pc0 := 123) (pc' := 128) rfl (hb hby d4_123) rfl (XT.ii_eq_t ((own_oEq (by omega) (by omega)).mpr h123)) (by decide) (by decide) k_) ?_
            show own_Go p e below _ Tx (mkF m 128 #[.val (.ref b), .val (.int (Int32.ofNat a)), .val (.int (Int32.ofNat t)), .val (.int (Int32.ofNat i)), .val (.int (Int32.ofNat q)), .val (.int (Int32.ofNat (i - q))), .val (.int (0 : Int32)), .unset] [])
            refine own_go (fun t_ k_ => XS.iload Xx.here hx rfl (hb hby d4_128) rfl k_) ?_
            show own_Go p e below _ Tx (mkF m 130 #[.val (.ref b), .val (.int (Int32.ofNat a)), .val (.int (Int32.ofNat t)), .val (.int (Int32.ofNat i)), .val (.int (Int32.ofNat q)), .val (.int (Int32.ofNat (i - q))), .val (.int (0 : Int32)), .unset] [(.int (Int32.ofNat (i - q)))])
            refine own_go (fun t_ k_ => XS.bipush Xx.here hx rfl (hb hby d4_130) k_) ?_
            show own_Go p e below _ Tx (mkF m 132 #[.val (.ref b), .val (.int (Int32.ofNat a)), .val (.int (Int32.ofNat t)), .val (.int (Int32.ofNat i)), .val (.int (Int32.ofNat q)), .val (.int (Int32.ofNat (i - q))), .val (.int (0 : Int32)), .unset] [(.int (18 : Int32)), (.int (Int32.ofNat (i - q)))])
            by_cases h132 : 18 < (i - q)
            · show own_Go p e below _ Tx (mkF m 132 #[.val (.ref b), .val (.int (Int32.ofNat a)), .val (.int (Int32.ofNat t)), .val (.int (Int32.ofNat i)), .val (.int (Int32.ofNat q)), .val (.int (Int32.ofNat (i - q))), .val (.int (0 : Int32)), .unset] [(.int (18 : Int32)), (.int (Int32.ofNat (i - q)))])
              refine own_go (fun t_ k_ => XS.icmpNo Xx.here hx rfl (hb hby d4_132) rfl (XT.ii_le_f ((own_oLt (a := 18) (by omega) (by omega)).mpr h132)) k_) ?_
              show own_Go p e below _ Tx (mkF m 135 #[.val (.ref b), .val (.int (Int32.ofNat a)), .val (.int (Int32.ofNat t)), .val (.int (Int32.ofNat i)), .val (.int (Int32.ofNat q)), .val (.int (Int32.ofNat (i - q))), .val (.int (0 : Int32)), .unset] [])
              refine own_go (fun t_ k_ => XS.bipush Xx.here hx rfl (hb hby d4_135) k_) ?_
              show own_Go p e below _ Tx (mkF m 137 #[.val (.ref b), .val (.int (Int32.ofNat a)), .val (.int (Int32.ofNat t)), .val (.int (Int32.ofNat i)), .val (.int (Int32.ofNat q)), .val (.int (Int32.ofNat (i - q))), .val (.int (0 : Int32)), .unset] [(.int (-2 : Int32))])
              refine own_go (fun t_ k_ => XS.goto Xx.here hx rfl (pc0 := 137) (pc' := 142) rfl (hb hby d4_137) (by decide) (by decide) k_) ?_
              show own_Go p e below _ Tx (mkF m 142 #[.val (.ref b), .val (.int (Int32.ofNat a)), .val (.int (Int32.ofNat t)), .val (.int (Int32.ofNat i)), .val (.int (Int32.ofNat q)), .val (.int (Int32.ofNat (i - q))), .val (.int (0 : Int32)), .unset] [(.int (-2 : Int32))])
              refine own_retI Xx hx hlk hret (hb hby d4_142) (by decide) (by decide) ?_
              exact ⟨⟨(-2 : Int32), rfl, ⟨fun z => absurd z (by decide), fun z => (own_nG (q := q) (i := i) g4 (hG.mp z) (by omega)).elim⟩⟩, Nx, ex⟩
            · show own_Go p e below _ Tx (mkF m 132 #[.val (.ref b), .val (.int (Int32.ofNat a)), .val (.int (Int32.ofNat t)), .val (.int (Int32.ofNat i)), .val (.int (Int32.ofNat q)), .val (.int (Int32.ofNat (i - q))), .val (.int (0 : Int32)), .unset] [(.int (18 : Int32)), (.int (Int32.ofNat (i - q)))])
              refine own_go (fun t_ k_ => XS.icmpYes Xx.here hx rfl (pc0 := 132) (pc' := 140) rfl (hb hby d4_132) rfl (XT.ii_le_t (fun q => h132 ((own_oLt (a := 18) (by omega) (by omega)).mp q))) (by decide) (by decide) k_) ?_
              show own_Go p e below _ Tx (mkF m 140 #[.val (.ref b), .val (.int (Int32.ofNat a)), .val (.int (Int32.ofNat t)), .val (.int (Int32.ofNat i)), .val (.int (Int32.ofNat q)), .val (.int (Int32.ofNat (i - q))), .val (.int (0 : Int32)), .unset] [])
              refine own_go (fun t_ k_ => XS.iload Xx.here hx rfl (hb hby d4_140) rfl k_) ?_
              show own_Go p e below _ Tx (mkF m 142 #[.val (.ref b), .val (.int (Int32.ofNat a)), .val (.int (Int32.ofNat t)), .val (.int (Int32.ofNat i)), .val (.int (Int32.ofNat q)), .val (.int (Int32.ofNat (i - q))), .val (.int (0 : Int32)), .unset] [(.int (0 : Int32))])
              refine own_retI Xx hx hlk hret (hb hby d4_142) (by decide) (by decide) ?_
              exact ⟨⟨(0 : Int32), rfl, ⟨fun _ => hG.mpr ⟨fun j z1 z2 => g3 j z1 (by omega), by omega, by omega⟩, fun _ => rfl⟩⟩, Nx, ex⟩
          · show own_Go p e below _ Tx (mkF m 123 #[.val (.ref b), .val (.int (Int32.ofNat a)), .val (.int (Int32.ofNat t)), .val (.int (Int32.ofNat i)), .val (.int (Int32.ofNat q)), .val (.int (Int32.ofNat (i - q))), .val (.int (0 : Int32)), .unset] [(.int (Int32.ofNat t)), (.int (Int32.ofNat i))])
            refine own_go (fun t_ k_ => XS.icmpNo Xx.here hx rfl (hb hby d4_123) rfl (XT.ii_eq_f (fun q => h123 ((own_oEq (by omega) (by omega)).mp q))) k_) ?_
            show own_Go p e below _ Tx (mkF m 126 #[.val (.ref b), .val (.int (Int32.ofNat a)), .val (.int (Int32.ofNat t)), .val (.int (Int32.ofNat i)), .val (.int (Int32.ofNat q)), .val (.int (Int32.ofNat (i - q))), .val (.int (0 : Int32)), .unset] [])
            refine own_go (fun t_ k_ => XS.iconst Xx.here hx rfl (hb hby d4_126) k_) ?_
            show own_Go p e below _ Tx (mkF m 127 #[.val (.ref b), .val (.int (Int32.ofNat a)), .val (.int (Int32.ofNat t)), .val (.int (Int32.ofNat i)), .val (.int (Int32.ofNat q)), .val (.int (Int32.ofNat (i - q))), .val (.int (0 : Int32)), .unset] [(.int (-1 : Int32))])
            refine own_retI Xx hx hlk hret (hb hby d4_127) (by decide) (by decide) ?_
            exact ⟨⟨(-1 : Int32), rfl, ⟨fun z => absurd z (by decide), fun z => (own_nG (q := q) (i := i) g4 (hG.mp z) (by omega)).elim⟩⟩, Nx, ex⟩
    have lp1 : ∀ (k : Nat) (i : Nat) (Ty : State) (Ly : List Loc) (Xy : Stand p l e ({ frames := 1, cells := 0, slots := 0, locals := 12 } : Room) s m #[(.ref b), (.int (Int32.ofNat a)), (.int (Int32.ofNat t))] below meth c Ty Ly 0 0) (Ny : Fr n0 Ly) (ey : Ty.heap = h0) (g0 : i + k = t) (g1 : q ≤ i) (g3 : ∀ j, q ≤ j → j < i → own_dig (f j)), own_Go p e below (own_K (fun v h L => (∃ r : Int32, v = some (.int r) ∧ (r = 0 ↔ own_G f a t)) ∧ Fr n0 L ∧ h = h0) s ({ frames := 1, cells := 0, slots := 0, locals := 12 } : Room).cells ({ frames := 1, cells := 0, slots := 0, locals := 12 } : Room).slots) Ty (mkF m 24 #[.val (.ref b), .val (.int (Int32.ofNat a)), .val (.int (Int32.ofNat t)), .val (.int (Int32.ofNat i)), .val (.int (Int32.ofNat q)), .unset, .unset, .unset] []) := by
      intro k
      induction k with
      | zero =>
        intro i Ty Ly Xy Ny ey g0 g1 g3
        show own_Go p e below _ Ty (mkF m 24 #[.val (.ref b), .val (.int (Int32.ofNat a)), .val (.int (Int32.ofNat t)), .val (.int (Int32.ofNat i)), .val (.int (Int32.ofNat q)), .unset, .unset, .unset] [])
        refine own_go (fun t_ k_ => XS.iloadN Xy.here hx rfl (hb hby d4_24) rfl k_) ?_
        show own_Go p e below _ Ty (mkF m 25 #[.val (.ref b), .val (.int (Int32.ofNat a)), .val (.int (Int32.ofNat t)), .val (.int (Int32.ofNat i)), .val (.int (Int32.ofNat q)), .unset, .unset, .unset] [(.int (Int32.ofNat i))])
        refine own_go (fun t_ k_ => XS.iloadN Xy.here hx rfl (hb hby d4_25) rfl k_) ?_
        show own_Go p e below _ Ty (mkF m 26 #[.val (.ref b), .val (.int (Int32.ofNat a)), .val (.int (Int32.ofNat t)), .val (.int (Int32.ofNat i)), .val (.int (Int32.ofNat q)), .unset, .unset, .unset] [(.int (Int32.ofNat t)), (.int (Int32.ofNat i))])
        refine own_go (fun t_ k_ => XS.icmpYes Xy.here hx rfl (pc0 := 26) (pc' := 44) rfl (hb hby d4_26) rfl (XT.ii_ge_t (fun z => by have := (own_oLt (by omega) (by omega)).mp z; omega)) (by decide) (by decide) k_) ?_
        show own_Go p e below _ Ty (mkF m 44 #[.val (.ref b), .val (.int (Int32.ofNat a)), .val (.int (Int32.ofNat t)), .val (.int (Int32.ofNat i)), .val (.int (Int32.ofNat q)), .unset, .unset, .unset] [])
        exact ex1 i Ty _ Xy Ny ey g1 (by omega) g3 (Or.inl (by omega))
      | succ k ih =>
        intro i Ty Ly Xy Ny ey g0 g1 g3
        show own_Go p e below _ Ty (mkF m 24 #[.val (.ref b), .val (.int (Int32.ofNat a)), .val (.int (Int32.ofNat t)), .val (.int (Int32.ofNat i)), .val (.int (Int32.ofNat q)), .unset, .unset, .unset] [])
        refine own_go (fun t_ k_ => XS.iloadN Xy.here hx rfl (hb hby d4_24) rfl k_) ?_
        show own_Go p e below _ Ty (mkF m 25 #[.val (.ref b), .val (.int (Int32.ofNat a)), .val (.int (Int32.ofNat t)), .val (.int (Int32.ofNat i)), .val (.int (Int32.ofNat q)), .unset, .unset, .unset] [(.int (Int32.ofNat i))])
        refine own_go (fun t_ k_ => XS.iloadN Xy.here hx rfl (hb hby d4_25) rfl k_) ?_
        show own_Go p e below _ Ty (mkF m 26 #[.val (.ref b), .val (.int (Int32.ofNat a)), .val (.int (Int32.ofNat t)), .val (.int (Int32.ofNat i)), .val (.int (Int32.ofNat q)), .unset, .unset, .unset] [(.int (Int32.ofNat t)), (.int (Int32.ofNat i))])
        refine own_go (fun t_ k_ => XS.icmpNo Xy.here hx rfl (hb hby d4_26) rfl (XT.ii_ge_f ((own_oLt (by omega) (by omega)).mpr (by omega))) k_) ?_
        show own_Go p e below _ Ty (mkF m 29 #[.val (.ref b), .val (.int (Int32.ofNat a)), .val (.int (Int32.ofNat t)), .val (.int (Int32.ofNat i)), .val (.int (Int32.ofNat q)), .unset, .unset, .unset] [])
        refine own_go (fun t_ k_ => XS.aloadN Xy.here hx rfl (hb hby d4_29) rfl rfl k_) ?_
        show own_Go p e below _ Ty (mkF m 30 #[.val (.ref b), .val (.int (Int32.ofNat a)), .val (.int (Int32.ofNat t)), .val (.int (Int32.ofNat i)), .val (.int (Int32.ofNat q)), .unset, .unset, .unset] [(.ref b)])
        refine own_go (fun t_ k_ => XS.iloadN Xy.here hx rfl (hb hby d4_30) rfl k_) ?_
        show own_Go p e below _ Ty (mkF m 31 #[.val (.ref b), .val (.int (Int32.ofNat a)), .val (.int (Int32.ofNat t)), .val (.int (Int32.ofNat i)), .val (.int (Int32.ofNat q)), .unset, .unset, .unset] [(.int (Int32.ofNat i)), (.ref b)])
        refine own_go (own_ldBA Xy hx hZ ey (Ls := #[.val (.ref b), .val (.int (Int32.ofNat a)), .val (.int (Int32.ofNat t)), .val (.int (Int32.ofNat i)), .val (.int (Int32.ofNat q)), .unset, .unset, .unset]) (rest := []) V1 (by decide) i (by omega) (hb hby d4_31)) ?_
        show own_Go p e below _ Ty (mkF m 32 #[.val (.ref b), .val (.int (Int32.ofNat a)), .val (.int (Int32.ofNat t)), .val (.int (Int32.ofNat i)), .val (.int (Int32.ofNat q)), .unset, .unset, .unset] [(.int (f i))])
        obtain ⟨_, T2, L2, X2, ⟨rfl, N2, e2⟩, st2⟩ := own_callS Xy hx hZ (y := (⟨"com/example/gridtally/gridtally/core/Decimals", "isDigit", "(B)Z"⟩ : MethodName)) (argsL := [(.int (f i))]) (rest := []) (Ls := #[.val (.ref b), .val (.int (Int32.ofNat a)), .val (.int (Int32.ofNat t)), .val (.int (Int32.ofNat i)), .val (.int (Int32.ofNat q)), .unset, .unset, .unset]) hown (own_w hw 36 rfl) (own_w hw 37 rfl) (own_w hw 31 rfl) (own_w hw 38 rfl) (by decide) ey (rmIE l Z a0 hw [] (f i) h0 n0 Z0) 0 (by decide) (by decide) (by decide) (by decide) (by rw [hml]; rfl) (lenOf pd_2 rfl) rfl (Nat.le_of_eq rfl) (hb hby d4_32)
        have M2 := Fr.app Ny N2
        refine own_go st2 ?_
        show own_Go p e below _ T2 (mkF m 35 #[.val (.ref b), .val (.int (Int32.ofNat a)), .val (.int (Int32.ofNat t)), .val (.int (Int32.ofNat i)), .val (.int (Int32.ofNat q)), .unset, .unset, .unset] [(.int (if own_dig (f i) then 1 else 0))])
        by_cases hd : ¬ own_dig (f i)
        · show own_Go p e below _ T2 (mkF m 35 #[.val (.ref b), .val (.int (Int32.ofNat a)), .val (.int (Int32.ofNat t)), .val (.int (Int32.ofNat i)), .val (.int (Int32.ofNat q)), .unset, .unset, .unset] [(.int (if own_dig (f i) then 1 else 0))])
          refine own_go (fun t_ k_ => XS.ifYes X2.here hx rfl (pc0 := 35) (pc' := 44) rfl (hb hby d4_35) rfl (XT.i0_eq_t (own_ite0.mpr hd)) (by decide) (by decide) k_) ?_
          show own_Go p e below _ T2 (mkF m 44 #[.val (.ref b), .val (.int (Int32.ofNat a)), .val (.int (Int32.ofNat t)), .val (.int (Int32.ofNat i)), .val (.int (Int32.ofNat q)), .unset, .unset, .unset] [])
          exact ex1 i T2 _ X2 M2 e2 g1 (by omega) g3 (Or.inr hd)
        · show own_Go p e below _ T2 (mkF m 35 #[.val (.ref b), .val (.int (Int32.ofNat a)), .val (.int (Int32.ofNat t)), .val (.int (Int32.ofNat i)), .val (.int (Int32.ofNat q)), .unset, .unset, .unset] [(.int (if own_dig (f i) then 1 else 0))])
          refine own_go (fun t_ k_ => XS.ifNo X2.here hx rfl (hb hby d4_35) rfl (XT.i0_eq_f (fun q => hd (own_ite0.mp q))) k_) ?_
          show own_Go p e below _ T2 (mkF m 38 #[.val (.ref b), .val (.int (Int32.ofNat a)), .val (.int (Int32.ofNat t)), .val (.int (Int32.ofNat i)), .val (.int (Int32.ofNat q)), .unset, .unset, .unset] [])
          refine own_go (fun t_ k_ => XS.iinc X2.here hx rfl (hb hby d4_38) rfl (l' := #[.val (.ref b), .val (.int (Int32.ofNat a)), .val (.int (Int32.ofNat t)), .val (.int ((Int32.ofNat i) + (1 : Int32))), .val (.int (Int32.ofNat q)), .unset, .unset, .unset]) rfl k_) ?_
          show own_Go p e below _ T2 (mkF m 41 #[.val (.ref b), .val (.int (Int32.ofNat a)), .val (.int (Int32.ofNat t)), .val (.int ((Int32.ofNat i) + (1 : Int32))), .val (.int (Int32.ofNat q)), .unset, .unset, .unset] [])
          rw [show ((Int32.ofNat i) + (1 : Int32)) = Int32.ofNat (i + 1) from own_oAdd i 1]
          show own_Go p e below _ T2 (mkF m 41 #[.val (.ref b), .val (.int (Int32.ofNat a)), .val (.int (Int32.ofNat t)), .val (.int (Int32.ofNat (i + 1))), .val (.int (Int32.ofNat q)), .unset, .unset, .unset] [])
          refine own_go (fun t_ k_ => XS.goto X2.here hx rfl (pc0 := 41) (pc' := 24) rfl (hb hby d4_41) (by decide) (by decide) k_) ?_
          show own_Go p e below _ T2 (mkF m 24 #[.val (.ref b), .val (.int (Int32.ofNat a)), .val (.int (Int32.ofNat t)), .val (.int (Int32.ofNat (i + 1))), .val (.int (Int32.ofNat q)), .unset, .unset, .unset] [])
          exact ih (i + 1) T2 _ X2 M2 e2 (by omega) (by omega) (own_allS g3 (Classical.not_not.mp hd))
    exact lp1 (t - q) q Tj _ Xj Nj ej (by omega) (Nat.le_refl _) (fun j z1 z2 => by omega)
  by_cases h2 : a < t
  · show own_Go p e below _ T0 (mkF m 2 #[.val (.ref b), .val (.int (Int32.ofNat a)), .val (.int (Int32.ofNat t)), .unset, .unset, .unset, .unset, .unset] [(.int (Int32.ofNat t)), (.int (Int32.ofNat a))])
    refine own_go (fun t_ k_ => XS.icmpNo X0.here hx rfl (hb hby d4_2) rfl (XT.ii_ge_f ((own_oLt (by omega) (by omega)).mpr h2)) k_) ?_
    show own_Go p e below _ T0 (mkF m 5 #[.val (.ref b), .val (.int (Int32.ofNat a)), .val (.int (Int32.ofNat t)), .unset, .unset, .unset, .unset, .unset] [])
    refine own_go (fun t_ k_ => XS.aloadN X0.here hx rfl (hb hby d4_5) rfl rfl k_) ?_
    show own_Go p e below _ T0 (mkF m 6 #[.val (.ref b), .val (.int (Int32.ofNat a)), .val (.int (Int32.ofNat t)), .unset, .unset, .unset, .unset, .unset] [(.ref b)])
    refine own_go (fun t_ k_ => XS.iloadN X0.here hx rfl (hb hby d4_6) rfl k_) ?_
    show own_Go p e below _ T0 (mkF m 7 #[.val (.ref b), .val (.int (Int32.ofNat a)), .val (.int (Int32.ofNat t)), .unset, .unset, .unset, .unset, .unset] [(.int (Int32.ofNat a)), (.ref b)])
    refine own_go (own_ldBA X0 hx hZ e0 (Ls := #[.val (.ref b), .val (.int (Int32.ofNat a)), .val (.int (Int32.ofNat t)), .unset, .unset, .unset, .unset, .unset]) (rest := []) V1 (by decide) a (by omega) (hb hby d4_7)) ?_
    show own_Go p e below _ T0 (mkF m 8 #[.val (.ref b), .val (.int (Int32.ofNat a)), .val (.int (Int32.ofNat t)), .unset, .unset, .unset, .unset, .unset] [(.int (f a))])
    refine own_go (fun t_ k_ => XS.bipush X0.here hx rfl (hb hby d4_8) k_) ?_
    show own_Go p e below _ T0 (mkF m 10 #[.val (.ref b), .val (.int (Int32.ofNat a)), .val (.int (Int32.ofNat t)), .unset, .unset, .unset, .unset, .unset] [(.int (45 : Int32)), (.int (f a))])
    by_cases h10 : (f a) = (45 : Int32)
    · show own_Go p e below _ T0 (mkF m 10 #[.val (.ref b), .val (.int (Int32.ofNat a)), .val (.int (Int32.ofNat t)), .unset, .unset, .unset, .unset, .unset] [(.int (45 : Int32)), (.int (f a))])
      refine own_go (fun t_ k_ => XS.icmpNo X0.here hx rfl (hb hby d4_10) rfl (XT.ii_ne_f h10) k_) ?_
      show own_Go p e below _ T0 (mkF m 13 #[.val (.ref b), .val (.int (Int32.ofNat a)), .val (.int (Int32.ofNat t)), .unset, .unset, .unset, .unset, .unset] [])
      refine own_go (fun t_ k_ => XS.iloadN X0.here hx rfl (hb hby d4_13) rfl k_) ?_
      show own_Go p e below _ T0 (mkF m 14 #[.val (.ref b), .val (.int (Int32.ofNat a)), .val (.int (Int32.ofNat t)), .unset, .unset, .unset, .unset, .unset] [(.int (Int32.ofNat a))])
      refine own_go (fun t_ k_ => XS.iconst X0.here hx rfl (hb hby d4_14) k_) ?_
      show own_Go p e below _ T0 (mkF m 15 #[.val (.ref b), .val (.int (Int32.ofNat a)), .val (.int (Int32.ofNat t)), .unset, .unset, .unset, .unset, .unset] [(.int (1 : Int32)), (.int (Int32.ofNat a))])
      refine own_go (fun t_ k_ => XS.iadd X0.here hx rfl (hb hby d4_15) rfl k_) ?_
      show own_Go p e below _ T0 (mkF m 16 #[.val (.ref b), .val (.int (Int32.ofNat a)), .val (.int (Int32.ofNat t)), .unset, .unset, .unset, .unset, .unset] [(.int ((Int32.ofNat a) + (1 : Int32)))])
      rw [show ((Int32.ofNat a) + (1 : Int32)) = (Int32.ofNat (a + 1)) from own_oAdd a 1]
      show own_Go p e below _ T0 (mkF m 16 #[.val (.ref b), .val (.int (Int32.ofNat a)), .val (.int (Int32.ofNat t)), .unset, .unset, .unset, .unset, .unset] [(.int (Int32.ofNat (a + 1)))])
      refine own_go (fun t_ k_ => XS.goto X0.here hx rfl (pc0 := 16) (pc' := 20) rfl (hb hby d4_16) (by decide) (by decide) k_) ?_
      show own_Go p e below _ T0 (mkF m 20 #[.val (.ref b), .val (.int (Int32.ofNat a)), .val (.int (Int32.ofNat t)), .unset, .unset, .unset, .unset, .unset] [(.int (Int32.ofNat (a + 1)))])
      rw [show (Int32.ofNat (a + 1)) = Int32.ofNat (own_st f a t) from by rw [own_st, if_pos ⟨h2, h10⟩]]
      exact j20  T0 _ X0 N0 e0 
    · show own_Go p e below _ T0 (mkF m 10 #[.val (.ref b), .val (.int (Int32.ofNat a)), .val (.int (Int32.ofNat t)), .unset, .unset, .unset, .unset, .unset] [(.int (45 : Int32)), (.int (f a))])
      refine own_go (fun t_ k_ => XS.icmpYes X0.here hx rfl (pc0 := 10) (pc' := 19) rfl (hb hby d4_10) rfl (XT.ii_ne_t h10) (by decide) (by decide) k_) ?_
      show own_Go p e below _ T0 (mkF m 19 #[.val (.ref b), .val (.int (Int32.ofNat a)), .val (.int (Int32.ofNat t)), .unset, .unset, .unset, .unset, .unset] [])
      refine own_go (fun t_ k_ => XS.iloadN X0.here hx rfl (hb hby d4_19) rfl k_) ?_
      show own_Go p e below _ T0 (mkF m 20 #[.val (.ref b), .val (.int (Int32.ofNat a)), .val (.int (Int32.ofNat t)), .unset, .unset, .unset, .unset, .unset] [(.int (Int32.ofNat a))])
      rw [show (mkF m 20 #[.val (.ref b), .val (.int (Int32.ofNat a)), .val (.int (Int32.ofNat t)), .unset, .unset, .unset, .unset, .unset] [(.int (Int32.ofNat a))]) = (mkF m 20 #[.val (.ref b), .val (.int (Int32.ofNat a)), .val (.int (Int32.ofNat t)), .unset, .unset, .unset, .unset, .unset] [(.int (Int32.ofNat (own_st f a t)))]) from by rw [own_st, if_neg (fun z => h10 z.2)]]
      exact j20  T0 _ X0 N0 e0 
  · show own_Go p e below _ T0 (mkF m 2 #[.val (.ref b), .val (.int (Int32.ofNat a)), .val (.int (Int32.ofNat t)), .unset, .unset, .unset, .unset, .unset] [(.int (Int32.ofNat t)), (.int (Int32.ofNat a))])
    refine own_go (fun t_ k_ => XS.icmpYes X0.here hx rfl (pc0 := 2) (pc' := 19) rfl (hb hby d4_2) rfl (XT.ii_ge_t (fun q => h2 ((own_oLt (by omega) (by omega)).mp q))) (by decide) (by decide) k_) ?_
    show own_Go p e below _ T0 (mkF m 19 #[.val (.ref b), .val (.int (Int32.ofNat a)), .val (.int (Int32.ofNat t)), .unset, .unset, .unset, .unset, .unset] [])
    refine own_go (fun t_ k_ => XS.iloadN X0.here hx rfl (hb hby d4_19) rfl k_) ?_
    show own_Go p e below _ T0 (mkF m 20 #[.val (.ref b), .val (.int (Int32.ofNat a)), .val (.int (Int32.ofNat t)), .unset, .unset, .unset, .unset, .unset] [(.int (Int32.ofNat a))])
    rw [show (mkF m 20 #[.val (.ref b), .val (.int (Int32.ofNat a)), .val (.int (Int32.ofNat t)), .unset, .unset, .unset, .unset, .unset] [(.int (Int32.ofNat a))]) = (mkF m 20 #[.val (.ref b), .val (.int (Int32.ofNat a)), .val (.int (Int32.ofNat t)), .unset, .unset, .unset, .unset, .unset] [(.int (Int32.ofNat (own_st f a t)))]) from by rw [own_st, if_neg (fun z => h2 z.1)]]
    exact j20  T0 _ X0 N0 e0 
set_option maxRecDepth 65536 in
set_option maxHeartbeats 40000000 in
theorem rmDs (l : Launch) (Z : State) (a0 : Array Value) (hw : ∀ d ∈ tables_1, d.before a0 Z = true) (ws : List Jvm.Cond) (b : Addr) (f : Nat → Int32) (a t : Nat) (h0 : Heap) (n0 : Nat) (Z0 : n0 ≤ h0.size) (V1 : own_BA Z h0 b 21 f) (ha : a < t) (ht : t ≤ 21) :
    own_Met l Z (⟨"com/example/gridtally/gridtally/core/Decimals", "digits", "([BII)J"⟩ : MethodName) prog_20_method_7_code 6 (some .long) ws ({ frames := 1, cells := 0, slots := 0, locals := 12 } : Room) #[(.ref b), (.int (Int32.ofNat a)), (.int (Int32.ofNat t))] h0 (fun v h L => v = some (.long (own_D f a t)) ∧ Fr n0 L ∧ h = h0) := by
  refine own_body (by first | exact plainFor_of_name pn_com_example_gridtally_gridtally_core_Decimals | decide +kernel) ?_
  intro p e s m below meth c T0 X0 hx hby hml hret hlk hZ hown hnm e0
  have hown : s.vm.findClass "com/example/gridtally/gridtally/core/Decimals" = some m.cls := hown
  have hnm : meth.name = "digits" := hnm
  have N0 := Fr.nil n0
  rw [ef_6 m b (Int32.ofNat a) (Int32.ofNat t)]
  show own_Go p e below _ T0 (mkF m 0 #[.val (.ref b), .val (.int (Int32.ofNat a)), .val (.int (Int32.ofNat t)), .unset, .unset, .unset] [])
  refine own_go (fun t_ k_ => XS.lconst X0.here hx rfl (hb hby d6_0) k_) ?_
  show own_Go p e below _ T0 (mkF m 1 #[.val (.ref b), .val (.int (Int32.ofNat a)), .val (.int (Int32.ofNat t)), .unset, .unset, .unset] [(.long (0 : Int64))])
  refine own_go (fun t_ k_ => XS.lstoreN X0.here hx rfl (hb hby d6_1) rfl (l' := #[.val (.ref b), .val (.int (Int32.ofNat a)), .val (.int (Int32.ofNat t)), .val (.long (0 : Int64)), .second, .unset]) rfl k_) ?_
  show own_Go p e below _ T0 (mkF m 2 #[.val (.ref b), .val (.int (Int32.ofNat a)), .val (.int (Int32.ofNat t)), .val (.long (0 : Int64)), .second, .unset] [])
  refine own_go (fun t_ k_ => XS.iloadN X0.here hx rfl (hb hby d6_2) rfl k_) ?_
  show own_Go p e below _ T0 (mkF m 3 #[.val (.ref b), .val (.int (Int32.ofNat a)), .val (.int (Int32.ofNat t)), .val (.long (0 : Int64)), .second, .unset] [(.int (Int32.ofNat a))])
  refine own_go (fun t_ k_ => XS.istore X0.here hx rfl (hb hby d6_3) rfl (l' := #[.val (.ref b), .val (.int (Int32.ofNat a)), .val (.int (Int32.ofNat t)), .val (.long (0 : Int64)), .second, .val (.int (Int32.ofNat a))]) rfl k_) ?_
  show own_Go p e below _ T0 (mkF m 5 #[.val (.ref b), .val (.int (Int32.ofNat a)), .val (.int (Int32.ofNat t)), .val (.long (0 : Int64)), .second, .val (.int (Int32.ofNat a))] [])
  have ex1 : ∀  (Tx : State) (Lx : List Loc) (Xx : Stand p l e ({ frames := 1, cells := 0, slots := 0, locals := 12 } : Room) s m #[(.ref b), (.int (Int32.ofNat a)), (.int (Int32.ofNat t))] below meth c Tx Lx 0 0) (Nx : Fr n0 Lx) (ex : Tx.heap = h0), own_Go p e below (own_K (fun v h L => v = some (.long (own_D f a t)) ∧ Fr n0 L ∧ h = h0) s ({ frames := 1, cells := 0, slots := 0, locals := 12 } : Room).cells ({ frames := 1, cells := 0, slots := 0, locals := 12 } : Room).slots) Tx (mkF m 42 #[.val (.ref b), .val (.int (Int32.ofNat a)), .val (.int (Int32.ofNat t)), .val (.long (own_run f a (t - a) 0)), .second, .val (.int (Int32.ofNat t))] []) := by
    intro Tx Lx Xx Nx ex
    refine own_go (fun t_ k_ => XS.aloadN Xx.here hx rfl (hb hby d6_42) rfl rfl k_) ?_
    show own_Go p e below _ Tx (mkF m 43 #[.val (.ref b), .val (.int (Int32.ofNat a)), .val (.int (Int32.ofNat t)), .val (.long (own_run f a (t - a) 0)), .second, .val (.int (Int32.ofNat t))] [(.ref b)])
    refine own_go (fun t_ k_ => XS.iloadN Xx.here hx rfl (hb hby d6_43) rfl k_) ?_
    show own_Go p e below _ Tx (mkF m 44 #[.val (.ref b), .val (.int (Int32.ofNat a)), .val (.int (Int32.ofNat t)), .val (.long (own_run f a (t - a) 0)), .second, .val (.int (Int32.ofNat t))] [(.int (Int32.ofNat a)), (.ref b)])
    refine own_go (own_ldBA Xx hx hZ ex (Ls := #[.val (.ref b), .val (.int (Int32.ofNat a)), .val (.int (Int32.ofNat t)), .val (.long (own_run f a (t - a) 0)), .second, .val (.int (Int32.ofNat t))]) (rest := []) V1 (by decide) a (by omega) (hb hby d6_44)) ?_
    show own_Go p e below _ Tx (mkF m 45 #[.val (.ref b), .val (.int (Int32.ofNat a)), .val (.int (Int32.ofNat t)), .val (.long (own_run f a (t - a) 0)), .second, .val (.int (Int32.ofNat t))] [(.int (f a))])
    refine own_go (fun t_ k_ => XS.bipush Xx.here hx rfl (hb hby d6_45) k_) ?_
    show own_Go p e below _ Tx (mkF m 47 #[.val (.ref b), .val (.int (Int32.ofNat a)), .val (.int (Int32.ofNat t)), .val (.long (own_run f a (t - a) 0)), .second, .val (.int (Int32.ofNat t))] [(.int (45 : Int32)), (.int (f a))])
    by_cases h47 : (f a) = (45 : Int32)
    · show own_Go p e below _ Tx (mkF m 47 #[.val (.ref b), .val (.int (Int32.ofNat a)), .val (.int (Int32.ofNat t)), .val (.long (own_run f a (t - a) 0)), .second, .val (.int (Int32.ofNat t))] [(.int (45 : Int32)), (.int (f a))])
      refine own_go (fun t_ k_ => XS.icmpNo Xx.here hx rfl (hb hby d6_47) rfl (XT.ii_ne_f h47) k_) ?_
      show own_Go p e below _ Tx (mkF m 50 #[.val (.ref b), .val (.int (Int32.ofNat a)), .val (.int (Int32.ofNat t)), .val (.long (own_run f a (t - a) 0)), .second, .val (.int (Int32.ofNat t))] [])
      refine own_go (fun t_ k_ => XS.lloadN Xx.here hx rfl (hb hby d6_50) rfl k_) ?_
      show own_Go p e below _ Tx (mkF m 51 #[.val (.ref b), .val (.int (Int32.ofNat a)), .val (.int (Int32.ofNat t)), .val (.long (own_run f a (t - a) 0)), .second, .val (.int (Int32.ofNat t))] [(.long (own_run f a (t - a) 0))])
      refine own_go (fun t_ k_ => XS.lneg Xx.here hx rfl (hb hby d6_51) rfl k_) ?_
      show own_Go p e below _ Tx (mkF m 52 #[.val (.ref b), .val (.int (Int32.ofNat a)), .val (.int (Int32.ofNat t)), .val (.long (own_run f a (t - a) 0)), .second, .val (.int (Int32.ofNat t))] [(.long (-(own_run f a (t - a) 0)))])
      refine own_go (fun t_ k_ => XS.goto Xx.here hx rfl (pc0 := 52) (pc' := 56) rfl (hb hby d6_52) (by decide) (by decide) k_) ?_
      show own_Go p e below _ Tx (mkF m 56 #[.val (.ref b), .val (.int (Int32.ofNat a)), .val (.int (Int32.ofNat t)), .val (.long (own_run f a (t - a) 0)), .second, .val (.int (Int32.ofNat t))] [(.long (-(own_run f a (t - a) 0)))])
      refine own_retJ Xx hx hlk hret (hb hby d6_56) (by decide) (by decide) ?_
      exact ⟨by rw [own_D, if_pos h47], Nx, ex⟩
    · show own_Go p e below _ Tx (mkF m 47 #[.val (.ref b), .val (.int (Int32.ofNat a)), .val (.int (Int32.ofNat t)), .val (.long (own_run f a (t - a) 0)), .second, .val (.int (Int32.ofNat t))] [(.int (45 : Int32)), (.int (f a))])
      refine own_go (fun t_ k_ => XS.icmpYes Xx.here hx rfl (pc0 := 47) (pc' := 55) rfl (hb hby d6_47) rfl (XT.ii_ne_t h47) (by decide) (by decide) k_) ?_
      show own_Go p e below _ Tx (mkF m 55 #[.val (.ref b), .val (.int (Int32.ofNat a)), .val (.int (Int32.ofNat t)), .val (.long (own_run f a (t - a) 0)), .second, .val (.int (Int32.ofNat t))] [])
      refine own_go (fun t_ k_ => XS.lloadN Xx.here hx rfl (hb hby d6_55) rfl k_) ?_
      show own_Go p e below _ Tx (mkF m 56 #[.val (.ref b), .val (.int (Int32.ofNat a)), .val (.int (Int32.ofNat t)), .val (.long (own_run f a (t - a) 0)), .second, .val (.int (Int32.ofNat t))] [(.long (own_run f a (t - a) 0))])
      refine own_retJ Xx hx hlk hret (hb hby d6_56) (by decide) (by decide) ?_
      exact ⟨by rw [own_D, if_neg h47], Nx, ex⟩
  have lp1 : ∀ (k : Nat) (i : Nat) (acc : Int64) (Ty : State) (Ly : List Loc) (Xy : Stand p l e ({ frames := 1, cells := 0, slots := 0, locals := 12 } : Room) s m #[(.ref b), (.int (Int32.ofNat a)), (.int (Int32.ofNat t))] below meth c Ty Ly 0 0) (Ny : Fr n0 Ly) (ey : Ty.heap = h0) (g0 : i + k = t) (g1 : own_run f i k acc = (own_run f a (t - a) 0)), own_Go p e below (own_K (fun v h L => v = some (.long (own_D f a t)) ∧ Fr n0 L ∧ h = h0) s ({ frames := 1, cells := 0, slots := 0, locals := 12 } : Room).cells ({ frames := 1, cells := 0, slots := 0, locals := 12 } : Room).slots) Ty (mkF m 5 #[.val (.ref b), .val (.int (Int32.ofNat a)), .val (.int (Int32.ofNat t)), .val (.long acc), .second, .val (.int (Int32.ofNat i))] []) := by
    intro k
    induction k with
    | zero =>
      intro i acc Ty Ly Xy Ny ey g0 g1
      show own_Go p e below _ Ty (mkF m 5 #[.val (.ref b), .val (.int (Int32.ofNat a)), .val (.int (Int32.ofNat t)), .val (.long acc), .second, .val (.int (Int32.ofNat i))] [])
      refine own_go (fun t_ k_ => XS.iload Xy.here hx rfl (hb hby d6_5) rfl k_) ?_
      show own_Go p e below _ Ty (mkF m 7 #[.val (.ref b), .val (.int (Int32.ofNat a)), .val (.int (Int32.ofNat t)), .val (.long acc), .second, .val (.int (Int32.ofNat i))] [(.int (Int32.ofNat i))])
      refine own_go (fun t_ k_ => XS.iloadN Xy.here hx rfl (hb hby d6_7) rfl k_) ?_
      show own_Go p e below _ Ty (mkF m 8 #[.val (.ref b), .val (.int (Int32.ofNat a)), .val (.int (Int32.ofNat t)), .val (.long acc), .second, .val (.int (Int32.ofNat i))] [(.int (Int32.ofNat t)), (.int (Int32.ofNat i))])
      refine own_go (fun t_ k_ => XS.icmpYes Xy.here hx rfl (pc0 := 8) (pc' := 42) rfl (hb hby d6_8) rfl (XT.ii_ge_t (fun z => by have := (own_oLt (by omega) (by omega)).mp z; omega)) (by decide) (by decide) k_) ?_
      show own_Go p e below _ Ty (mkF m 42 #[.val (.ref b), .val (.int (Int32.ofNat a)), .val (.int (Int32.ofNat t)), .val (.long acc), .second, .val (.int (Int32.ofNat i))] [])
      obtain rfl : i = t := by omega
      have g1' : acc = own_run f a (i - a) 0 := g1
      rw [g1']
      exact ex1 Ty _ Xy Ny ey
    | succ k ih =>
      intro i acc Ty Ly Xy Ny ey g0 g1
      show own_Go p e below _ Ty (mkF m 5 #[.val (.ref b), .val (.int (Int32.ofNat a)), .val (.int (Int32.ofNat t)), .val (.long acc), .second, .val (.int (Int32.ofNat i))] [])
      refine own_go (fun t_ k_ => XS.iload Xy.here hx rfl (hb hby d6_5) rfl k_) ?_
      show own_Go p e below _ Ty (mkF m 7 #[.val (.ref b), .val (.int (Int32.ofNat a)), .val (.int (Int32.ofNat t)), .val (.long acc), .second, .val (.int (Int32.ofNat i))] [(.int (Int32.ofNat i))])
      refine own_go (fun t_ k_ => XS.iloadN Xy.here hx rfl (hb hby d6_7) rfl k_) ?_
      show own_Go p e below _ Ty (mkF m 8 #[.val (.ref b), .val (.int (Int32.ofNat a)), .val (.int (Int32.ofNat t)), .val (.long acc), .second, .val (.int (Int32.ofNat i))] [(.int (Int32.ofNat t)), (.int (Int32.ofNat i))])
      refine own_go (fun t_ k_ => XS.icmpNo Xy.here hx rfl (hb hby d6_8) rfl (XT.ii_ge_f ((own_oLt (by omega) (by omega)).mpr (by omega))) k_) ?_
      show own_Go p e below _ Ty (mkF m 11 #[.val (.ref b), .val (.int (Int32.ofNat a)), .val (.int (Int32.ofNat t)), .val (.long acc), .second, .val (.int (Int32.ofNat i))] [])
      refine own_go (fun t_ k_ => XS.aloadN Xy.here hx rfl (hb hby d6_11) rfl rfl k_) ?_
      show own_Go p e below _ Ty (mkF m 12 #[.val (.ref b), .val (.int (Int32.ofNat a)), .val (.int (Int32.ofNat t)), .val (.long acc), .second, .val (.int (Int32.ofNat i))] [(.ref b)])
      refine own_go (fun t_ k_ => XS.iload Xy.here hx rfl (hb hby d6_12) rfl k_) ?_
      show own_Go p e below _ Ty (mkF m 14 #[.val (.ref b), .val (.int (Int32.ofNat a)), .val (.int (Int32.ofNat t)), .val (.long acc), .second, .val (.int (Int32.ofNat i))] [(.int (Int32.ofNat i)), (.ref b)])
      refine own_go (own_ldBA Xy hx hZ ey (Ls := #[.val (.ref b), .val (.int (Int32.ofNat a)), .val (.int (Int32.ofNat t)), .val (.long acc), .second, .val (.int (Int32.ofNat i))]) (rest := []) V1 (by decide) i (by omega) (hb hby d6_14)) ?_
      show own_Go p e below _ Ty (mkF m 15 #[.val (.ref b), .val (.int (Int32.ofNat a)), .val (.int (Int32.ofNat t)), .val (.long acc), .second, .val (.int (Int32.ofNat i))] [(.int (f i))])
      obtain ⟨_, T1, L1, X1, ⟨rfl, N1, e1⟩, st1⟩ := own_callS Xy hx hZ (y := (⟨"com/example/gridtally/gridtally/core/Decimals", "isDigit", "(B)Z"⟩ : MethodName)) (argsL := [(.int (f i))]) (rest := []) (Ls := #[.val (.ref b), .val (.int (Int32.ofNat a)), .val (.int (Int32.ofNat t)), .val (.long acc), .second, .val (.int (Int32.ofNat i))]) hown (own_w hw 36 rfl) (own_w hw 37 rfl) (own_w hw 31 rfl) (own_w hw 38 rfl) (by decide) ey (rmIE l Z a0 hw [] (f i) h0 n0 Z0) 0 (by decide) (by decide) (by decide) (by decide) (by rw [hml]; rfl) (lenOf pd_2 rfl) rfl (Nat.le_of_eq rfl) (hb hby d6_15)
      have M1 := Fr.app Ny N1
      refine own_go st1 ?_
      show own_Go p e below _ T1 (mkF m 18 #[.val (.ref b), .val (.int (Int32.ofNat a)), .val (.int (Int32.ofNat t)), .val (.long acc), .second, .val (.int (Int32.ofNat i))] [(.int (if own_dig (f i) then 1 else 0))])
      by_cases hd : ¬ own_dig (f i)
      · show own_Go p e below _ T1 (mkF m 18 #[.val (.ref b), .val (.int (Int32.ofNat a)), .val (.int (Int32.ofNat t)), .val (.long acc), .second, .val (.int (Int32.ofNat i))] [(.int (if own_dig (f i) then 1 else 0))])
        refine own_go (fun t_ k_ => XS.ifYes X1.here hx rfl (pc0 := 18) (pc' := 36) rfl (hb hby d6_18) rfl (XT.i0_eq_t (own_ite0.mpr hd)) (by decide) (by decide) k_) ?_
        show own_Go p e below _ T1 (mkF m 36 #[.val (.ref b), .val (.int (Int32.ofNat a)), .val (.int (Int32.ofNat t)), .val (.long acc), .second, .val (.int (Int32.ofNat i))] [])
        refine own_go (fun t_ k_ => XS.iinc X1.here hx rfl (hb hby d6_36) rfl (l' := #[.val (.ref b), .val (.int (Int32.ofNat a)), .val (.int (Int32.ofNat t)), .val (.long acc), .second, .val (.int ((Int32.ofNat i) + (1 : Int32)))]) rfl k_) ?_
        show own_Go p e below _ T1 (mkF m 39 #[.val (.ref b), .val (.int (Int32.ofNat a)), .val (.int (Int32.ofNat t)), .val (.long acc), .second, .val (.int ((Int32.ofNat i) + (1 : Int32)))] [])
        rw [show ((Int32.ofNat i) + (1 : Int32)) = Int32.ofNat (i + 1) from own_oAdd i 1]
        show own_Go p e below _ T1 (mkF m 39 #[.val (.ref b), .val (.int (Int32.ofNat a)), .val (.int (Int32.ofNat t)), .val (.long acc), .second, .val (.int (Int32.ofNat (i + 1)))] [])
        refine own_go (fun t_ k_ => XS.goto X1.here hx rfl (pc0 := 39) (pc' := 5) rfl (hb hby d6_39) (by decide) (by decide) k_) ?_
        show own_Go p e below _ T1 (mkF m 5 #[.val (.ref b), .val (.int (Int32.ofNat a)), .val (.int (Int32.ofNat t)), .val (.long acc), .second, .val (.int (Int32.ofNat (i + 1)))] [])
        exact ih (i + 1) _ T1 _ X1 M1 e1 (by omega) (by rw [← g1]; show _ = own_run f (i + 1) k (if own_dig (f i) then _ else _); rw [if_neg hd])
      · show own_Go p e below _ T1 (mkF m 18 #[.val (.ref b), .val (.int (Int32.ofNat a)), .val (.int (Int32.ofNat t)), .val (.long acc), .second, .val (.int (Int32.ofNat i))] [(.int (if own_dig (f i) then 1 else 0))])
        refine own_go (fun t_ k_ => XS.ifNo X1.here hx rfl (hb hby d6_18) rfl (XT.i0_eq_f (fun q => hd (own_ite0.mp q))) k_) ?_
        show own_Go p e below _ T1 (mkF m 21 #[.val (.ref b), .val (.int (Int32.ofNat a)), .val (.int (Int32.ofNat t)), .val (.long acc), .second, .val (.int (Int32.ofNat i))] [])
        refine own_go (fun t_ k_ => XS.lloadN X1.here hx rfl (hb hby d6_21) rfl k_) ?_
        show own_Go p e below _ T1 (mkF m 22 #[.val (.ref b), .val (.int (Int32.ofNat a)), .val (.int (Int32.ofNat t)), .val (.long acc), .second, .val (.int (Int32.ofNat i))] [(.long acc)])
        refine own_go (fun t_ k_ => X1.ldc2Long hx hown (mvT hZ (own_w hw 42 rfl)) (g := (mkF m 22 #[.val (.ref b), .val (.int (Int32.ofNat a)), .val (.int (Int32.ofNat t)), .val (.long acc), .second, .val (.int (Int32.ofNat i))] [(.long acc)])) rfl (hb hby d6_22) t_ k_) ?_
        show own_Go p e below _ T1 (mkF m 25 #[.val (.ref b), .val (.int (Int32.ofNat a)), .val (.int (Int32.ofNat t)), .val (.long acc), .second, .val (.int (Int32.ofNat i))] [(.long (10 : Int64)), (.long acc)])
        refine own_go (fun t_ k_ => XS.lmul X1.here hx rfl (hb hby d6_25) rfl k_) ?_
        show own_Go p e below _ T1 (mkF m 26 #[.val (.ref b), .val (.int (Int32.ofNat a)), .val (.int (Int32.ofNat t)), .val (.long acc), .second, .val (.int (Int32.ofNat i))] [(.long (acc * (10 : Int64)))])
        refine own_go (fun t_ k_ => XS.aloadN X1.here hx rfl (hb hby d6_26) rfl rfl k_) ?_
        show own_Go p e below _ T1 (mkF m 27 #[.val (.ref b), .val (.int (Int32.ofNat a)), .val (.int (Int32.ofNat t)), .val (.long acc), .second, .val (.int (Int32.ofNat i))] [(.ref b), (.long (acc * (10 : Int64)))])
        refine own_go (fun t_ k_ => XS.iload X1.here hx rfl (hb hby d6_27) rfl k_) ?_
        show own_Go p e below _ T1 (mkF m 29 #[.val (.ref b), .val (.int (Int32.ofNat a)), .val (.int (Int32.ofNat t)), .val (.long acc), .second, .val (.int (Int32.ofNat i))] [(.int (Int32.ofNat i)), (.ref b), (.long (acc * (10 : Int64)))])
        refine own_go (own_ldBA X1 hx hZ e1 (Ls := #[.val (.ref b), .val (.int (Int32.ofNat a)), .val (.int (Int32.ofNat t)), .val (.long acc), .second, .val (.int (Int32.ofNat i))]) (rest := [(.long (acc * (10 : Int64)))]) V1 (by decide) i (by omega) (hb hby d6_29)) ?_
        show own_Go p e below _ T1 (mkF m 30 #[.val (.ref b), .val (.int (Int32.ofNat a)), .val (.int (Int32.ofNat t)), .val (.long acc), .second, .val (.int (Int32.ofNat i))] [(.int (f i)), (.long (acc * (10 : Int64)))])
        refine own_go (fun t_ k_ => XS.bipush X1.here hx rfl (hb hby d6_30) k_) ?_
        show own_Go p e below _ T1 (mkF m 32 #[.val (.ref b), .val (.int (Int32.ofNat a)), .val (.int (Int32.ofNat t)), .val (.long acc), .second, .val (.int (Int32.ofNat i))] [(.int (48 : Int32)), (.int (f i)), (.long (acc * (10 : Int64)))])
        refine own_go (fun t_ k_ => XS.isub X1.here hx rfl (hb hby d6_32) rfl k_) ?_
        show own_Go p e below _ T1 (mkF m 33 #[.val (.ref b), .val (.int (Int32.ofNat a)), .val (.int (Int32.ofNat t)), .val (.long acc), .second, .val (.int (Int32.ofNat i))] [(.int ((f i) - (48 : Int32))), (.long (acc * (10 : Int64)))])
        refine own_go (fun t_ k_ => XS.i2l X1.here hx rfl (hb hby d6_33) rfl k_) ?_
        show own_Go p e below _ T1 (mkF m 34 #[.val (.ref b), .val (.int (Int32.ofNat a)), .val (.int (Int32.ofNat t)), .val (.long acc), .second, .val (.int (Int32.ofNat i))] [(.long ((f i) - (48 : Int32)).toInt64), (.long (acc * (10 : Int64)))])
        refine own_go (fun t_ k_ => XS.ladd X1.here hx rfl (hb hby d6_34) rfl k_) ?_
        show own_Go p e below _ T1 (mkF m 35 #[.val (.ref b), .val (.int (Int32.ofNat a)), .val (.int (Int32.ofNat t)), .val (.long acc), .second, .val (.int (Int32.ofNat i))] [(.long ((acc * (10 : Int64)) + ((f i) - (48 : Int32)).toInt64))])
        refine own_go (fun t_ k_ => XS.lstoreN X1.here hx rfl (hb hby d6_35) rfl (l' := #[.val (.ref b), .val (.int (Int32.ofNat a)), .val (.int (Int32.ofNat t)), .val (.long ((acc * (10 : Int64)) + ((f i) - (48 : Int32)).toInt64)), .second, .val (.int (Int32.ofNat i))]) rfl k_) ?_
        show own_Go p e below _ T1 (mkF m 36 #[.val (.ref b), .val (.int (Int32.ofNat a)), .val (.int (Int32.ofNat t)), .val (.long ((acc * (10 : Int64)) + ((f i) - (48 : Int32)).toInt64)), .second, .val (.int (Int32.ofNat i))] [])
        refine own_go (fun t_ k_ => XS.iinc X1.here hx rfl (hb hby d6_36) rfl (l' := #[.val (.ref b), .val (.int (Int32.ofNat a)), .val (.int (Int32.ofNat t)), .val (.long ((acc * (10 : Int64)) + ((f i) - (48 : Int32)).toInt64)), .second, .val (.int ((Int32.ofNat i) + (1 : Int32)))]) rfl k_) ?_
        show own_Go p e below _ T1 (mkF m 39 #[.val (.ref b), .val (.int (Int32.ofNat a)), .val (.int (Int32.ofNat t)), .val (.long ((acc * (10 : Int64)) + ((f i) - (48 : Int32)).toInt64)), .second, .val (.int ((Int32.ofNat i) + (1 : Int32)))] [])
        rw [show ((Int32.ofNat i) + (1 : Int32)) = Int32.ofNat (i + 1) from own_oAdd i 1]
        show own_Go p e below _ T1 (mkF m 39 #[.val (.ref b), .val (.int (Int32.ofNat a)), .val (.int (Int32.ofNat t)), .val (.long ((acc * (10 : Int64)) + ((f i) - (48 : Int32)).toInt64)), .second, .val (.int (Int32.ofNat (i + 1)))] [])
        refine own_go (fun t_ k_ => XS.goto X1.here hx rfl (pc0 := 39) (pc' := 5) rfl (hb hby d6_39) (by decide) (by decide) k_) ?_
        show own_Go p e below _ T1 (mkF m 5 #[.val (.ref b), .val (.int (Int32.ofNat a)), .val (.int (Int32.ofNat t)), .val (.long ((acc * (10 : Int64)) + ((f i) - (48 : Int32)).toInt64)), .second, .val (.int (Int32.ofNat (i + 1)))] [])
        exact ih (i + 1) _ T1 _ X1 M1 e1 (by omega) (by rw [← g1]; show _ = own_run f (i + 1) k (if own_dig (f i) then _ else _); rw [if_pos (Classical.not_not.mp hd)])
  exact lp1 (t - a) a (0 : Int64) T0 _ X0 N0 e0 (by omega) rfl
set_option maxRecDepth 65536 in
set_option maxHeartbeats 40000000 in
theorem rmNumber (l : Launch) (Z : State) (a0 : Array Value) (hw : ∀ d ∈ tables_1, d.before a0 Z = true) (ws : List Jvm.Cond) (a1 : Addr) (h0 : Heap) (n0 : Nat) (Z0 : n0 ≤ h0.size) :
    own_Met l Z (⟨"java/lang/Number", "<init>", "()V"⟩ : MethodName) jdk_18_method_1_code 1 none ws ({ frames := 1, cells := 0, slots := 0, locals := 12 } : Room) #[(.ref a1)] h0 (fun v h L => v = none ∧ Fr n0 L ∧ h = h0) := by
  refine own_body (by first | exact plainFor_of_name pn_java_lang_Number | decide +kernel) ?_
  intro p e s m below meth c T0 X0 hx hby hml hret hlk hZ hown hnm e0
  have hown : s.vm.findClass "java/lang/Number" = some m.cls := hown
  have hnm : meth.name = "<init>" := hnm
  have N0 := Fr.nil n0
  rw [ef_11 m a1]
  show own_Go p e below _ T0 (mkF m 0 #[.val (.ref a1)] [])
  refine own_go (fun t_ k_ => XS.aloadN X0.here hx rfl (hb hby d11_0) rfl rfl k_) ?_
  show own_Go p e below _ T0 (mkF m 1 #[.val (.ref a1)] [(.ref a1)])
  obtain ⟨T1, X1, e1, st1⟩ := initO X0 hx hZ hown (own_w hw 73 rfl) (own_w hw 74 rfl) (own_w hw 75 rfl) e0 (g := (mkF m 1 #[.val (.ref a1)] [(.ref a1)])) rfl (by rw [hml]; rfl) rfl (hb hby d11_1) (by decide) (W := 0) (by show 2 * 0 + _ ≤ _; exact Nat.le_of_eq rfl) (by decide)
  refine own_go st1 ?_
  show own_Go p e below _ T1 (mkF m 4 #[.val (.ref a1)] [])
  refine own_retV X1 hx hlk hret (hb hby d11_4) (by decide) (by decide) ?_
  exact ⟨rfl, N0, e1⟩
set_option maxRecDepth 65536 in
set_option maxHeartbeats 40000000 in
theorem rmLI (l : Launch) (Z : State) (a0 : Array Value) (hw : ∀ d ∈ tables_1, d.before a0 Z = true) (ws : List Jvm.Cond) (a1 : Addr) (q1 : Int64) (h0 : Heap) (n0 : Nat) (Z0 : n0 ≤ h0.size) (E1 : Exa Z h0 a1 "java/lang/Long") (F_value : Fld Z h0 a1 "java/lang/Long" "value" "J" (.long (0 : Int64))) (g1 : n0 ≤ a1) :
    own_Met l Z (⟨"java/lang/Long", "<init>", "(J)V"⟩ : MethodName) jdk_35_method_26_code 3 none ws ({ frames := 2, cells := 0, slots := 0, locals := 24 } : Room) #[(.ref a1), (.long q1)] h0 (fun v h L => v = none ∧ Fr n0 L ∧ Keep h0 h [a1] ∧ Fld Z h a1 "java/lang/Long" "value" "J" (.long q1)) := by
  refine own_body (by first | exact plainFor_of_name pn_java_lang_Long | decide +kernel) ?_
  intro p e s m below meth c T0 X0 hx hby hml hret hlk hZ hown hnm e0
  have hown : s.vm.findClass "java/lang/Long" = some m.cls := hown
  have hnm : meth.name = "<init>" := hnm
  have N0 := Fr.nil n0
  rw [ef_10 m a1 q1]
  show own_Go p e below _ T0 (mkF m 0 #[.val (.ref a1), .val (.long q1), .second] [])
  refine own_go (fun t_ k_ => XS.aloadN X0.here hx rfl (hb hby d10_0) rfl rfl k_) ?_
  show own_Go p e below _ T0 (mkF m 1 #[.val (.ref a1), .val (.long q1), .second] [(.ref a1)])
  obtain ⟨_, T1, L1, X1, ⟨rfl, N1, e1⟩, st1⟩ := own_callC X0 hx hZ (y := (⟨"java/lang/Number", "<init>", "()V"⟩ : MethodName)) (b := a1) (argsL := []) (rest := []) (Ls := #[.val (.ref a1), .val (.long q1), .second]) rfl hown (own_w hw 67 rfl) (own_w hw 68 rfl) (own_w hw 72 rfl) (own_w hw 71 rfl) (by decide) e0 (rmNumber l Z a0 hw [] a1 h0 n0 Z0) 0 (by decide) (by decide) (by decide) (by decide) (by rw [hml]; rfl) (lenOf pd_1 rfl) rfl (Nat.le_of_eq rfl) (hb hby d10_1)
  have M1 := Fr.app N0 N1
  refine own_go st1 ?_
  show own_Go p e below _ T1 (mkF m 4 #[.val (.ref a1), .val (.long q1), .second] [])
  refine own_go (fun t_ k_ => XS.aloadN X1.here hx rfl (hb hby d10_4) rfl rfl k_) ?_
  show own_Go p e below _ T1 (mkF m 5 #[.val (.ref a1), .val (.long q1), .second] [(.ref a1)])
  refine own_go (fun t_ k_ => XS.lloadN X1.here hx rfl (hb hby d10_5) rfl k_) ?_
  show own_Go p e below _ T1 (mkF m 6 #[.val (.ref a1), .val (.long q1), .second] [(.long q1), (.ref a1)])
  obtain ⟨T2, h2, L2, X2, N2, e2, W2, G2, st2⟩ := own_putF X1 hx hZ hown (v := (.long q1)) (host := "") (Or.inl (own_w hw 56 rfl)) Via.refl e1 F_value E1 (Or.inr ⟨(own_w hw 57 rfl), rfl, hnm⟩) (own_w hw 62 rfl) .long (by decide) rfl rfl M1 g1 (Ls := #[.val (.ref a1), .val (.long q1), .second]) (rest := []) (hb hby d10_6)
  have kp2 := (Keep.refl h0 [a1]).wr W2 (Or.inl (List.mem_of_getElem? (i := 0) rfl))
  refine own_go st2 ?_
  show own_Go p e below _ T2 (mkF m 9 #[.val (.ref a1), .val (.long q1), .second] [])
  refine own_retV X2 hx hlk hret (hb hby d10_9) (by decide) (by decide) ?_
  exact ⟨rfl, N2, by rw [e2]; exact ⟨kp2, G2⟩⟩
set_option maxRecDepth 65536 in
set_option maxHeartbeats 40000000 in
theorem rmL (l : Launch) (Z : State) (a0 : Array Value) (hw : ∀ d ∈ tables_1, d.before a0 Z = true) (ws : List Jvm.Cond) (q1 : Int64) (ac : Addr) (cc : Cell) (h0 : Heap) (n0 : Nat) (Z0 : n0 ≤ h0.size) (O0 : Old Z n0 h0) (S_C : Sta Z Z.heap "java/lang/Long$LongCache" "cache" "[Ljava/lang/Long;" (.ref ac)) (A_C : Arr Z Z.heap ac cc (.object "java/lang/Long")) (hs_C : cc.slots.size = 256) (he_C : ∀ i : Nat, i < 256 → ∃ u : Addr, cc.slots[i]? = some (.ref u) ∧ Exa Z Z.heap u "java/lang/Long" ∧ Fld Z Z.heap u "java/lang/Long" "value" "J" (.long (Int32.ofNat i - 128).toInt64)) :
    own_Met l Z (⟨"java/lang/Long", "valueOf", "(J)Ljava/lang/Long;"⟩ : MethodName) jdk_35_method_24_code 3 (some (.object "java/lang/Long")) ws ({ frames := 3, cells := 1, slots := 1, locals := 39 } : Room) #[(.long q1)] h0 (fun v h L => (∃ u : Addr, v = some (.ref u) ∧ Exa Z h u "java/lang/Long" ∧ Fld Z h u "java/lang/Long" "value" "J" (.long q1)) ∧ Keep h0 h [] ∧ Old Z n0 h ∧ Fr n0 L) := by
  refine own_body (by first | exact plainFor_of_name pn_java_lang_Long | decide +kernel) ?_
  intro p e s m below meth c T0 X0 hx hby hml hret hlk hZ hown hnm e0
  have hown : s.vm.findClass "java/lang/Long" = some m.cls := hown
  have hnm : meth.name = "valueOf" := hnm
  have N0 := Fr.nil n0
  rw [ef_7 m q1]
  show own_Go p e below _ T0 (mkF m 0 #[.val (.long q1), .second, .unset] [])
  refine own_go (fun t_ k_ => XS.sipush X0.here hx rfl (hb hby d7_0) k_) ?_
  show own_Go p e below _ T0 (mkF m 3 #[.val (.long q1), .second, .unset] [(.int (128 : Int32))])
  refine own_go (fun t_ k_ => XS.istoreN X0.here hx rfl (hb hby d7_3) rfl (l' := #[.val (.long q1), .second, .val (.int (128 : Int32))]) rfl k_) ?_
  show own_Go p e below _ T0 (mkF m 4 #[.val (.long q1), .second, .val (.int (128 : Int32))] [])
  refine own_go (fun t_ k_ => XS.lloadN X0.here hx rfl (hb hby d7_4) rfl k_) ?_
  show own_Go p e below _ T0 (mkF m 5 #[.val (.long q1), .second, .val (.int (128 : Int32))] [(.long q1)])
  refine own_go (fun t_ k_ => X0.ldc2Long hx hown (mvT hZ (own_w hw 47 rfl)) (g := (mkF m 5 #[.val (.long q1), .second, .val (.int (128 : Int32))] [(.long q1)])) rfl (hb hby d7_5) t_ k_) ?_
  show own_Go p e below _ T0 (mkF m 8 #[.val (.long q1), .second, .val (.int (128 : Int32))] [(.long (-128 : Int64)), (.long q1)])
  refine own_go (fun t_ k_ => XT.lcmp X0.here hx rfl (hb hby d7_8) rfl k_) ?_
  show own_Go p e below _ T0 (mkF m 9 #[.val (.long q1), .second, .val (.int (128 : Int32))] [(.int (XT.cmpL q1 (-128 : Int64)))])
  by_cases hc9 : q1 < (-128 : Int64)
  · show own_Go p e below _ T0 (mkF m 9 #[.val (.long q1), .second, .val (.int (128 : Int32))] [(.int (XT.cmpL q1 (-128 : Int64)))])
    refine own_go (fun t_ k_ => XS.ifYes X0.here hx rfl (pc0 := 9) (pc' := 31) rfl (hb hby d7_9) rfl (XT.ll_lt_t hc9) (by decide) (by decide) k_) ?_
    show own_Go p e below _ T0 (mkF m 31 #[.val (.long q1), .second, .val (.int (128 : Int32))] [])
    obtain ⟨T1, h1, b1, X1, e1, E1, g1, A1, D1, st1⟩ := own_newO X0 hx hZ hown (own_w hw 61 rfl) (own_w hw 62 rfl) (own_w hw 45 rfl) e0 (Ls := #[.val (.long q1), .second, .val (.int (128 : Int32))]) (st := []) (hb hby d7_31) (by decide) (by decide)
    have ge_b1 : n0 ≤ b1 := g1 ▸ own_oldge O0
    have old1 := O0.ext E1
    have kp1 := (Keep.refl h0 []).ext E1
    have F1_value : Fld Z h1 b1 "java/lang/Long" "value" "J" (.long (0 : Int64)) := D1 (Or.inr (own_w hw 57 rfl)) (ty := .long) (by decide)
    refine own_go st1 ?_
    show own_Go p e below _ T1 (mkF m 34 #[.val (.long q1), .second, .val (.int (128 : Int32))] [(.ref b1)])
    have sz_b1 : h0.size ≤ b1 := Nat.le_of_eq g1.symm
    refine own_go (fun t_ k_ => XS.dup X1.here hx rfl (hb hby d7_34) rfl rfl k_) ?_
    show own_Go p e below _ T1 (mkF m 35 #[.val (.long q1), .second, .val (.int (128 : Int32))] [(.ref b1), (.ref b1)])
    refine own_go (fun t_ k_ => XS.lloadN X1.here hx rfl (hb hby d7_35) rfl k_) ?_
    show own_Go p e below _ T1 (mkF m 36 #[.val (.long q1), .second, .val (.int (128 : Int32))] [(.long q1), (.ref b1), (.ref b1)])
    obtain ⟨_, T2, L2, X2, ⟨rfl, N2, K2, FV2⟩, st2⟩ := own_callC X1 hx hZ (y := (⟨"java/lang/Long", "<init>", "(J)V"⟩ : MethodName)) (b := b1) (argsL := [(.long q1)]) (rest := [(.ref b1)]) (Ls := #[.val (.long q1), .second, .val (.int (128 : Int32))]) rfl hown (own_w hw 63 rfl) (own_w hw 64 rfl) (own_w hw 66 rfl) (own_w hw 45 rfl) (by decide) e1 (rmLI l Z a0 hw [] b1 q1 h1 n0 (own_oldge old1) A1 F1_value ge_b1) 1 (by decide) (by decide) (by decide) (by decide) (by rw [hml]; rfl) (lenOf pd_4 rfl) rfl (Nat.le_of_eq rfl) (hb hby d7_36)
    have M2 := Fr.app N0 N2
    have old2 := old1.keep K2 (allS ge_b1 all0)
    have kq2 : Keep h0 T2.heap [] := kp1.trans K2 (allS (Or.inr sz_b1) all0)
    refine own_go st2 ?_
    show own_Go p e below _ T2 (mkF m 39 #[.val (.long q1), .second, .val (.int (128 : Int32))] [(.ref b1)])
    refine own_retA X2 hx hlk hret (hb hby d7_39) rfl rfl (by decide) (by decide) ?_
    exact ⟨⟨b1, rfl, (A1.keep K2), FV2⟩, kq2, old2, M2⟩
  · show own_Go p e below _ T0 (mkF m 9 #[.val (.long q1), .second, .val (.int (128 : Int32))] [(.int (XT.cmpL q1 (-128 : Int64)))])
    refine own_go (fun t_ k_ => XS.ifNo X0.here hx rfl (hb hby d7_9) rfl (XT.ll_lt_f hc9) k_) ?_
    show own_Go p e below _ T0 (mkF m 12 #[.val (.long q1), .second, .val (.int (128 : Int32))] [])
    refine own_go (fun t_ k_ => XS.lloadN X0.here hx rfl (hb hby d7_12) rfl k_) ?_
    show own_Go p e below _ T0 (mkF m 13 #[.val (.long q1), .second, .val (.int (128 : Int32))] [(.long q1)])
    refine own_go (fun t_ k_ => X0.ldc2Long hx hown (mvT hZ (own_w hw 48 rfl)) (g := (mkF m 13 #[.val (.long q1), .second, .val (.int (128 : Int32))] [(.long q1)])) rfl (hb hby d7_13) t_ k_) ?_
    show own_Go p e below _ T0 (mkF m 16 #[.val (.long q1), .second, .val (.int (128 : Int32))] [(.long (127 : Int64)), (.long q1)])
    refine own_go (fun t_ k_ => XT.lcmp X0.here hx rfl (hb hby d7_16) rfl k_) ?_
    show own_Go p e below _ T0 (mkF m 17 #[.val (.long q1), .second, .val (.int (128 : Int32))] [(.int (XT.cmpL q1 (127 : Int64)))])
    by_cases hc17 : (127 : Int64) < q1
    · show own_Go p e below _ T0 (mkF m 17 #[.val (.long q1), .second, .val (.int (128 : Int32))] [(.int (XT.cmpL q1 (127 : Int64)))])
      refine own_go (fun t_ k_ => XS.ifYes X0.here hx rfl (pc0 := 17) (pc' := 31) rfl (hb hby d7_17) rfl (XT.ll_gt_t hc17) (by decide) (by decide) k_) ?_
      show own_Go p e below _ T0 (mkF m 31 #[.val (.long q1), .second, .val (.int (128 : Int32))] [])
      obtain ⟨T3, h3, b3, X3, e3, E3, g3, A3, D3, st3⟩ := own_newO X0 hx hZ hown (own_w hw 61 rfl) (own_w hw 62 rfl) (own_w hw 45 rfl) e0 (Ls := #[.val (.long q1), .second, .val (.int (128 : Int32))]) (st := []) (hb hby d7_31) (by decide) (by decide)
      have ge_b3 : n0 ≤ b3 := g3 ▸ own_oldge O0
      have old3 := O0.ext E3
      have kp3 := (Keep.refl h0 []).ext E3
      have F3_value : Fld Z h3 b3 "java/lang/Long" "value" "J" (.long (0 : Int64)) := D3 (Or.inr (own_w hw 57 rfl)) (ty := .long) (by decide)
      refine own_go st3 ?_
      show own_Go p e below _ T3 (mkF m 34 #[.val (.long q1), .second, .val (.int (128 : Int32))] [(.ref b3)])
      have sz_b3 : h0.size ≤ b3 := Nat.le_of_eq g3.symm
      refine own_go (fun t_ k_ => XS.dup X3.here hx rfl (hb hby d7_34) rfl rfl k_) ?_
      show own_Go p e below _ T3 (mkF m 35 #[.val (.long q1), .second, .val (.int (128 : Int32))] [(.ref b3), (.ref b3)])
      refine own_go (fun t_ k_ => XS.lloadN X3.here hx rfl (hb hby d7_35) rfl k_) ?_
      show own_Go p e below _ T3 (mkF m 36 #[.val (.long q1), .second, .val (.int (128 : Int32))] [(.long q1), (.ref b3), (.ref b3)])
      obtain ⟨_, T4, L4, X4, ⟨rfl, N4, K4, FV4⟩, st4⟩ := own_callC X3 hx hZ (y := (⟨"java/lang/Long", "<init>", "(J)V"⟩ : MethodName)) (b := b3) (argsL := [(.long q1)]) (rest := [(.ref b3)]) (Ls := #[.val (.long q1), .second, .val (.int (128 : Int32))]) rfl hown (own_w hw 63 rfl) (own_w hw 64 rfl) (own_w hw 66 rfl) (own_w hw 45 rfl) (by decide) e3 (rmLI l Z a0 hw [] b3 q1 h3 n0 (own_oldge old3) A3 F3_value ge_b3) 1 (by decide) (by decide) (by decide) (by decide) (by rw [hml]; rfl) (lenOf pd_4 rfl) rfl (Nat.le_of_eq rfl) (hb hby d7_36)
      have M4 := Fr.app N0 N4
      have old4 := old3.keep K4 (allS ge_b3 all0)
      have kq4 : Keep h0 T4.heap [] := kp3.trans K4 (allS (Or.inr sz_b3) all0)
      refine own_go st4 ?_
      show own_Go p e below _ T4 (mkF m 39 #[.val (.long q1), .second, .val (.int (128 : Int32))] [(.ref b3)])
      refine own_retA X4 hx hlk hret (hb hby d7_39) rfl rfl (by decide) (by decide) ?_
      exact ⟨⟨b3, rfl, (A3.keep K4), FV4⟩, kq4, old4, M4⟩
    · show own_Go p e below _ T0 (mkF m 17 #[.val (.long q1), .second, .val (.int (128 : Int32))] [(.int (XT.cmpL q1 (127 : Int64)))])
      refine own_go (fun t_ k_ => XS.ifNo X0.here hx rfl (hb hby d7_17) rfl (XT.ll_gt_f hc17) k_) ?_
      show own_Go p e below _ T0 (mkF m 20 #[.val (.long q1), .second, .val (.int (128 : Int32))] [])
      obtain ⟨T5, X5, e5, st5⟩ := getS2 X0 hx hZ hown (host := "") (Or.inl (own_w hw 49 rfl)) Via.refl e0 (S_C.ext O0.2) (g := (mkF m 20 #[.val (.long q1), .second, .val (.int (128 : Int32))] [])) rfl (hb hby d7_20)
      refine own_go st5 ?_
      show own_Go p e below _ T5 (mkF m 23 #[.val (.long q1), .second, .val (.int (128 : Int32))] [(.ref ac)])
      refine own_go (fun t_ k_ => XS.lloadN X5.here hx rfl (hb hby d7_23) rfl k_) ?_
      show own_Go p e below _ T5 (mkF m 24 #[.val (.long q1), .second, .val (.int (128 : Int32))] [(.long q1), (.ref ac)])
      refine own_go (fun t_ k_ => XS.l2i X5.here hx rfl (hb hby d7_24) rfl k_) ?_
      show own_Go p e below _ T5 (mkF m 25 #[.val (.long q1), .second, .val (.int (128 : Int32))] [(.int q1.toInt32), (.ref ac)])
      refine own_go (fun t_ k_ => XS.sipush X5.here hx rfl (hb hby d7_25) k_) ?_
      show own_Go p e below _ T5 (mkF m 28 #[.val (.long q1), .second, .val (.int (128 : Int32))] [(.int (128 : Int32)), (.int q1.toInt32), (.ref ac)])
      refine own_go (fun t_ k_ => XS.iadd X5.here hx rfl (hb hby d7_28) rfl k_) ?_
      show own_Go p e below _ T5 (mkF m 29 #[.val (.long q1), .second, .val (.int (128 : Int32))] [(.int (q1.toInt32 + (128 : Int32))), (.ref ac)])
      obtain ⟨ci, hci, eci, vci⟩ := own_cidx q1 hc9 hc17
      obtain ⟨u, hu, Eu, Fu⟩ := he_C ci hci
      rw [vci] at Fu
      refine own_go (fun t_ k_ => X5.aaload hx (j := (q1.toInt32 + (128 : Int32))) (v := (.ref u)) (by rw [e5]; exact (A_C.ext O0.2).1) (State.isArrayOf_alike hZ.alike A_C.2.1) rfl A_C.2.2 (by rw [eci]; exact own_oIn hs_C (by decide) hci) (by rw [eci, own_oNat (by omega)]; exact hu) (g := (mkF m 29 #[.val (.long q1), .second, .val (.int (128 : Int32))] [(.int (q1.toInt32 + (128 : Int32))), (.ref ac)])) rfl rfl (hb hby d7_29) t_ k_) ?_
      show own_Go p e below _ T5 (mkF m 30 #[.val (.long q1), .second, .val (.int (128 : Int32))] [(.ref u)])
      refine own_retA X5 hx hlk hret (hb hby d7_30) rfl rfl (by decide) (by decide) ?_
      exact by rw [e5]; exact ⟨⟨u, rfl, (Eu.ext O0.2), (Fu.ext O0.2)⟩, (Keep.refl h0 []), O0, N0⟩
set_option maxRecDepth 65536 in
set_option maxHeartbeats 40000000 in
theorem rmLV (l : Launch) (Z : State) (a0 : Array Value) (hw : ∀ d ∈ tables_1, d.before a0 Z = true) (ws : List Jvm.Cond) (a1 : Addr) (k1 : Int64) (h0 : Heap) (n0 : Nat) (Z0 : n0 ≤ h0.size) (F1 : Fld Z h0 a1 "java/lang/Long" "value" "J" (.long k1)) :
    own_Met l Z (⟨"java/lang/Long", "longValue", "()J"⟩ : MethodName) jdk_35_method_31_code 1 (some .long) ws ({ frames := 0, cells := 0, slots := 0, locals := 0 } : Room) #[(.ref a1)] h0 (fun v h L => v = some (.long k1) ∧ Fr n0 L ∧ h = h0) := by
  refine own_body (by first | exact plainFor_of_name pn_java_lang_Long | decide +kernel) ?_
  intro p e s m below meth c T0 X0 hx hby hml hret hlk hZ hown hnm e0
  have hown : s.vm.findClass "java/lang/Long" = some m.cls := hown
  have hnm : meth.name = "longValue" := hnm
  have N0 := Fr.nil n0
  rw [ef_8 m a1]
  show own_Go p e below _ T0 (mkF m 0 #[.val (.ref a1)] [])
  refine own_go (fun t_ k_ => XS.aloadN X0.here hx rfl (hb hby d8_0) rfl rfl k_) ?_
  show own_Go p e below _ T0 (mkF m 1 #[.val (.ref a1)] [(.ref a1)])
  obtain ⟨T1, X1, e1, st1⟩ := getF X0 hx hZ hown (host := "") (Or.inl (own_w hw 56 rfl)) Via.refl e0 F1 (g := (mkF m 1 #[.val (.ref a1)] [(.ref a1)])) rfl rfl (hb hby d8_1)
  refine own_go st1 ?_
  show own_Go p e below _ T1 (mkF m 4 #[.val (.ref a1)] [(.long k1)])
  refine own_retJ X1 hx hlk hret (hb hby d8_4) (by decide) (by decide) ?_
  exact ⟨rfl, N0, e1⟩
set_option maxRecDepth 65536 in
set_option maxHeartbeats 40000000 in
theorem rmInt (l : Launch) (Z : State) (a0 : Array Value) (hw : ∀ d ∈ tables_1, d.before a0 Z = true) (ws : List Jvm.Cond) (b : Addr) (f : Nat → Int32) (a t : Nat) (ac : Addr) (cc : Cell) (h0 : Heap) (n0 : Nat) (Z0 : n0 ≤ h0.size) (O0 : Old Z n0 h0) (V1 : own_BA Z h0 b 21 f) (ha : a ≤ t) (ht : t ≤ 21) (S_C : Sta Z Z.heap "java/lang/Long$LongCache" "cache" "[Ljava/lang/Long;" (.ref ac)) (A_C : Arr Z Z.heap ac cc (.object "java/lang/Long")) (hs_C : cc.slots.size = 256) (he_C : ∀ i : Nat, i < 256 → ∃ u : Addr, cc.slots[i]? = some (.ref u) ∧ Exa Z Z.heap u "java/lang/Long" ∧ Fld Z Z.heap u "java/lang/Long" "value" "J" (.long (Int32.ofNat i - 128).toInt64)) :
    own_Met l Z (⟨"com/example/gridtally/gridtally/core/Decimals", "integer", "([BII)Ljava/lang/Long;"⟩ : MethodName) prog_20_method_5_code 3 (some (.object "java/lang/Long")) ws ({ frames := 4, cells := 1, slots := 1, locals := 53 } : Room) #[(.ref b), (.int (Int32.ofNat a)), (.int (Int32.ofNat t))] h0 (fun v h L => (∃ r : Value, v = some r ∧ r.isRef = true ∧ ((own_G f a t ∧ ∃ u : Addr, r = .ref u ∧ Exa Z h u "java/lang/Long" ∧ Fld Z h u "java/lang/Long" "value" "J" (.long (own_D f a t))) ∨ (¬ own_G f a t ∧ r = .null))) ∧ Keep h0 h [] ∧ Old Z n0 h ∧ Fr n0 L) := by
  refine own_body (by first | exact plainFor_of_name pn_com_example_gridtally_gridtally_core_Decimals | decide +kernel) ?_
  intro p e s m below meth c T0 X0 hx hby hml hret hlk hZ hown hnm e0
  have hown : s.vm.findClass "com/example/gridtally/gridtally/core/Decimals" = some m.cls := hown
  have hnm : meth.name = "integer" := hnm
  have N0 := Fr.nil n0
  rw [ef_3 m b (Int32.ofNat a) (Int32.ofNat t)]
  show own_Go p e below _ T0 (mkF m 0 #[.val (.ref b), .val (.int (Int32.ofNat a)), .val (.int (Int32.ofNat t))] [])
  refine own_go (fun t_ k_ => XS.aloadN X0.here hx rfl (hb hby d3_0) rfl rfl k_) ?_
  show own_Go p e below _ T0 (mkF m 1 #[.val (.ref b), .val (.int (Int32.ofNat a)), .val (.int (Int32.ofNat t))] [(.ref b)])
  refine own_go (fun t_ k_ => XS.iloadN X0.here hx rfl (hb hby d3_1) rfl k_) ?_
  show own_Go p e below _ T0 (mkF m 2 #[.val (.ref b), .val (.int (Int32.ofNat a)), .val (.int (Int32.ofNat t))] [(.int (Int32.ofNat a)), (.ref b)])
  refine own_go (fun t_ k_ => XS.iloadN X0.here hx rfl (hb hby d3_2) rfl k_) ?_
  show own_Go p e below _ T0 (mkF m 3 #[.val (.ref b), .val (.int (Int32.ofNat a)), .val (.int (Int32.ofNat t))] [(.int (Int32.ofNat t)), (.int (Int32.ofNat a)), (.ref b)])
  obtain ⟨_, T1, L1, X1, ⟨⟨sc, rfl, hsc⟩, N1, e1⟩, st1⟩ := own_callS X0 hx hZ (y := (⟨"com/example/gridtally/gridtally/core/Decimals", "scale", "([BII)I"⟩ : MethodName)) (argsL := [(.ref b), (.int (Int32.ofNat a)), (.int (Int32.ofNat t))]) (rest := []) (Ls := #[.val (.ref b), .val (.int (Int32.ofNat a)), .val (.int (Int32.ofNat t))]) hown (own_w hw 33 rfl) (own_w hw 34 rfl) (own_w hw 31 rfl) (own_w hw 35 rfl) (by decide) e0 (rmSc l Z a0 hw [] b f a t h0 n0 Z0 V1 ha ht) 0 (by decide) (by decide) (by decide) (by decide) (by rw [hml]; rfl) (lenOf pd_7 rfl) rfl (Nat.le_of_eq rfl) (hb hby d3_3)
  have M1 := Fr.app N0 N1
  refine own_go st1 ?_
  show own_Go p e below _ T1 (mkF m 6 #[.val (.ref b), .val (.int (Int32.ofNat a)), .val (.int (Int32.ofNat t))] [(.int sc)])
  by_cases hc6 : sc = 0
  · show own_Go p e below _ T1 (mkF m 6 #[.val (.ref b), .val (.int (Int32.ofNat a)), .val (.int (Int32.ofNat t))] [(.int sc)])
    refine own_go (fun t_ k_ => XS.ifNo X1.here hx rfl (hb hby d3_6) rfl (XT.i0_ne_f hc6) k_) ?_
    show own_Go p e below _ T1 (mkF m 9 #[.val (.ref b), .val (.int (Int32.ofNat a)), .val (.int (Int32.ofNat t))] [])
    refine own_go (fun t_ k_ => XS.aloadN X1.here hx rfl (hb hby d3_9) rfl rfl k_) ?_
    show own_Go p e below _ T1 (mkF m 10 #[.val (.ref b), .val (.int (Int32.ofNat a)), .val (.int (Int32.ofNat t))] [(.ref b)])
    refine own_go (fun t_ k_ => XS.iloadN X1.here hx rfl (hb hby d3_10) rfl k_) ?_
    show own_Go p e below _ T1 (mkF m 11 #[.val (.ref b), .val (.int (Int32.ofNat a)), .val (.int (Int32.ofNat t))] [(.int (Int32.ofNat a)), (.ref b)])
    refine own_go (fun t_ k_ => XS.iloadN X1.here hx rfl (hb hby d3_11) rfl k_) ?_
    show own_Go p e below _ T1 (mkF m 12 #[.val (.ref b), .val (.int (Int32.ofNat a)), .val (.int (Int32.ofNat t))] [(.int (Int32.ofNat t)), (.int (Int32.ofNat a)), (.ref b)])
    obtain ⟨_, T2, L2, X2, ⟨rfl, N2, e2⟩, st2⟩ := own_callS X1 hx hZ (y := (⟨"com/example/gridtally/gridtally/core/Decimals", "digits", "([BII)J"⟩ : MethodName)) (argsL := [(.ref b), (.int (Int32.ofNat a)), (.int (Int32.ofNat t))]) (rest := []) (Ls := #[.val (.ref b), .val (.int (Int32.ofNat a)), .val (.int (Int32.ofNat t))]) hown (own_w hw 39 rfl) (own_w hw 40 rfl) (own_w hw 31 rfl) (own_w hw 41 rfl) (by decide) e1 (rmDs l Z a0 hw [] b f a t h0 n0 Z0 V1 (own_GLt (hsc.mp hc6)) ht) 0 (by decide) (by decide) (by decide) (by decide) (by rw [hml]; rfl) (lenOf pd_8 rfl) rfl (Nat.le_of_eq rfl) (hb hby d3_12)
    have M2 := Fr.app M1 N2
    refine own_go st2 ?_
    show own_Go p e below _ T2 (mkF m 15 #[.val (.ref b), .val (.int (Int32.ofNat a)), .val (.int (Int32.ofNat t))] [(.long (own_D f a t))])
    obtain ⟨_, T3, L3, X3, ⟨⟨u3, rfl, Eu3, Fu3⟩, K3, old3, N3⟩, st3⟩ := own_callS X2 hx hZ (y := (⟨"java/lang/Long", "valueOf", "(J)Ljava/lang/Long;"⟩ : MethodName)) (argsL := [(.long (own_D f a t))]) (rest := []) (Ls := #[.val (.ref b), .val (.int (Int32.ofNat a)), .val (.int (Int32.ofNat t))]) hown (own_w hw 43 rfl) (own_w hw 44 rfl) (own_w hw 45 rfl) (own_w hw 46 rfl) (by decide) e2 (rmL l Z a0 hw [] (own_D f a t) ac cc h0 n0 (own_oldge O0) O0 S_C A_C hs_C he_C) 0 (by decide) (by decide) (by decide) (by decide) (by rw [hml]; rfl) (lenOf pd_3 rfl) rfl (Nat.le_of_eq rfl) (hb hby d3_15)
    have M3 := Fr.app M2 N3
    refine own_go st3 ?_
    show own_Go p e below _ T3 (mkF m 18 #[.val (.ref b), .val (.int (Int32.ofNat a)), .val (.int (Int32.ofNat t))] [(.ref u3)])
    refine own_go (fun t_ k_ => XS.goto X3.here hx rfl (pc0 := 18) (pc' := 22) rfl (hb hby d3_18) (by decide) (by decide) k_) ?_
    show own_Go p e below _ T3 (mkF m 22 #[.val (.ref b), .val (.int (Int32.ofNat a)), .val (.int (Int32.ofNat t))] [(.ref u3)])
    refine own_retA X3 hx hlk hret (hb hby d3_22) rfl rfl (by decide) (by decide) ?_
    exact ⟨⟨_, rfl, rfl, Or.inl ⟨hsc.mp hc6, u3, rfl, Eu3, Fu3⟩⟩, K3, old3, M3⟩
  · show own_Go p e below _ T1 (mkF m 6 #[.val (.ref b), .val (.int (Int32.ofNat a)), .val (.int (Int32.ofNat t))] [(.int sc)])
    refine own_go (fun t_ k_ => XS.ifYes X1.here hx rfl (pc0 := 6) (pc' := 21) rfl (hb hby d3_6) rfl (XT.i0_ne_t hc6) (by decide) (by decide) k_) ?_
    show own_Go p e below _ T1 (mkF m 21 #[.val (.ref b), .val (.int (Int32.ofNat a)), .val (.int (Int32.ofNat t))] [])
    refine own_go (fun t_ k_ => XS.aconstNull X1.here hx rfl (hb hby d3_21) k_) ?_
    show own_Go p e below _ T1 (mkF m 22 #[.val (.ref b), .val (.int (Int32.ofNat a)), .val (.int (Int32.ofNat t))] [.null])
    refine own_retA X1 hx hlk hret (hb hby d3_22) rfl rfl (by decide) (by decide) ?_
    exact by rw [e1]; exact ⟨⟨_, rfl, rfl, Or.inr ⟨fun z => hc6 (hsc.mpr z), rfl⟩⟩, Keep.refl _ _, O0, M1⟩
set_option maxRecDepth 65536 in
set_option maxHeartbeats 40000000 in
theorem rm0 (l : Launch) (Z : State) (a0 : Array Value) (hw : ∀ d ∈ tables_1, d.before a0 Z = true) (ws : List Jvm.Cond) (q1 : Int64) (p2 p3 p4 p5 : Int32) (ac : Addr) (cc : Cell) (h0 : Heap) (n0 : Nat) (Z0 : n0 ≤ h0.size) (O0 : Old Z n0 h0) (S_C : Sta Z Z.heap "java/lang/Long$LongCache" "cache" "[Ljava/lang/Long;" (.ref ac)) (A_C : Arr Z Z.heap ac cc (.object "java/lang/Long")) (hs_C : cc.slots.size = 256) (he_C : ∀ i : Nat, i < 256 → ∃ u : Addr, cc.slots[i]? = some (.ref u) ∧ Exa Z Z.heap u "java/lang/Long" ∧ Fld Z Z.heap u "java/lang/Long" "value" "J" (.long (Int32.ofNat i - 128).toInt64)) :
    own_Met l Z x code maxLocals ret ws room_1 #[(.long q1), (.int p2), (.int p3), (.int p4), (.int p5)] h0 (fun v h L => v = some (.int 1) ∧ Fr n0 L) := by
  refine own_body (by first | exact plainFor_of_name pn_com_example_gridtally_gridtally_core_DecimalsIntegerPinLaw | decide +kernel) ?_
  intro p e s m below meth c T0 X0 hx hby hml hret hlk hZ hown hnm e0
  have hown : s.vm.findClass "com/example/gridtally/gridtally/core/DecimalsIntegerPinLaw" = some m.cls := hown
  have hnm : meth.name = "law" := hnm
  have N0 := Fr.nil n0
  rw [ef_0 m q1 p2 p3 p4 p5]
  show own_Go p e below _ T0 (mkF m 0 #[.val (.long q1), .second, .val (.int p2), .val (.int p3), .val (.int p4), .val (.int p5), .unset, .unset, .unset, .unset, .unset, .unset, .unset, .unset, .unset, .unset, .unset, .unset, .unset, .unset, .unset, .unset, .unset, .unset, .unset, .unset, .unset, .unset, .unset, .unset, .unset] [])
  refine own_go (fun t_ k_ => XS.bipush X0.here hx rfl (hb hby at_0) k_) ?_
  show own_Go p e below _ T0 (mkF m 2 #[.val (.long q1), .second, .val (.int p2), .val (.int p3), .val (.int p4), .val (.int p5), .unset, .unset, .unset, .unset, .unset, .unset, .unset, .unset, .unset, .unset, .unset, .unset, .unset, .unset, .unset, .unset, .unset, .unset, .unset, .unset, .unset, .unset, .unset, .unset, .unset] [(.int (19 : Int32))])
  obtain ⟨T1, h1, b1, k1, X1, e1, E1, g1, V1, st1⟩ := own_newP X0 hx hZ rfl (own_w hw 0 rfl) e0 (Ls := #[.val (.long q1), .second, .val (.int p2), .val (.int p3), .val (.int p4), .val (.int p5), .unset, .unset, .unset, .unset, .unset, .unset, .unset, .unset, .unset, .unset, .unset, .unset, .unset, .unset, .unset, .unset, .unset, .unset, .unset, .unset, .unset, .unset, .unset, .unset, .unset]) (rest := []) (hb hby at_2) (n := (19 : Int32)) (by decide) 19 (by decide) (by decide) (by decide) (by decide)
  have ge_b1 : n0 ≤ b1 := g1 ▸ own_oldge O0
  have old1 := O0.ext E1
  have V1 : Arv Z h1 b1 k1 .long (19 : Int32) [(.long (0 : Int64)), (.long (0 : Int64)), (.long (0 : Int64)), (.long (0 : Int64)), (.long (0 : Int64)), (.long (0 : Int64)), (.long (0 : Int64)), (.long (0 : Int64)), (.long (0 : Int64)), (.long (0 : Int64)), (.long (0 : Int64)), (.long (0 : Int64)), (.long (0 : Int64)), (.long (0 : Int64)), (.long (0 : Int64)), (.long (0 : Int64)), (.long (0 : Int64)), (.long (0 : Int64)), (.long (0 : Int64))] (.long (0 : Int64)) := V1
  refine own_go st1 ?_
  show own_Go p e below _ T1 (mkF m 4 #[.val (.long q1), .second, .val (.int p2), .val (.int p3), .val (.int p4), .val (.int p5), .unset, .unset, .unset, .unset, .unset, .unset, .unset, .unset, .unset, .unset, .unset, .unset, .unset, .unset, .unset, .unset, .unset, .unset, .unset, .unset, .unset, .unset, .unset, .unset, .unset] [(.ref b1)])
  refine own_go (fun t_ k_ => XS.dup X1.here hx rfl (hb hby at_4) rfl rfl k_) ?_
  show own_Go p e below _ T1 (mkF m 5 #[.val (.long q1), .second, .val (.int p2), .val (.int p3), .val (.int p4), .val (.int p5), .unset, .unset, .unset, .unset, .unset, .unset, .unset, .unset, .unset, .unset, .unset, .unset, .unset, .unset, .unset, .unset, .unset, .unset, .unset, .unset, .unset, .unset, .unset, .unset, .unset] [(.ref b1), (.ref b1)])
  refine own_go (fun t_ k_ => XS.iconst X1.here hx rfl (hb hby at_5) k_) ?_
  show own_Go p e below _ T1 (mkF m 6 #[.val (.long q1), .second, .val (.int p2), .val (.int p3), .val (.int p4), .val (.int p5), .unset, .unset, .unset, .unset, .unset, .unset, .unset, .unset, .unset, .unset, .unset, .unset, .unset, .unset, .unset, .unset, .unset, .unset, .unset, .unset, .unset, .unset, .unset, .unset, .unset] [(.int (0 : Int32)), (.ref b1), (.ref b1)])
  refine own_go (fun t_ k_ => XS.lconst X1.here hx rfl (hb hby at_6) k_) ?_
  show own_Go p e below _ T1 (mkF m 7 #[.val (.long q1), .second, .val (.int p2), .val (.int p3), .val (.int p4), .val (.int p5), .unset, .unset, .unset, .unset, .unset, .unset, .unset, .unset, .unset, .unset, .unset, .unset, .unset, .unset, .unset, .unset, .unset, .unset, .unset, .unset, .unset, .unset, .unset, .unset, .unset] [(.long (1 : Int64)), (.int (0 : Int32)), (.ref b1), (.ref b1)])
  obtain ⟨T2, h2, L2, X2, N2, e2, W2, V2, st2⟩ := own_stJ X1 hx hZ e1 (j := (0 : Int32)) (vs' := [(.long (1 : Int64)), (.long (0 : Int64)), (.long (0 : Int64)), (.long (0 : Int64)), (.long (0 : Int64)), (.long (0 : Int64)), (.long (0 : Int64)), (.long (0 : Int64)), (.long (0 : Int64)), (.long (0 : Int64)), (.long (0 : Int64)), (.long (0 : Int64)), (.long (0 : Int64)), (.long (0 : Int64)), (.long (0 : Int64)), (.long (0 : Int64)), (.long (0 : Int64)), (.long (0 : Int64)), (.long (0 : Int64))]) V1  (by decide) 0 rfl (Nat.le_of_ble_eq_true rfl) rfl N0 ge_b1 (Ls := #[.val (.long q1), .second, .val (.int p2), .val (.int p3), .val (.int p4), .val (.int p5), .unset, .unset, .unset, .unset, .unset, .unset, .unset, .unset, .unset, .unset, .unset, .unset, .unset, .unset, .unset, .unset, .unset, .unset, .unset, .unset, .unset, .unset, .unset, .unset, .unset]) (rest := [(.ref b1)]) (hb hby at_7)
  have old2 := old1.wr W2 ge_b1
  refine own_go st2 ?_
  show own_Go p e below _ T2 (mkF m 8 #[.val (.long q1), .second, .val (.int p2), .val (.int p3), .val (.int p4), .val (.int p5), .unset, .unset, .unset, .unset, .unset, .unset, .unset, .unset, .unset, .unset, .unset, .unset, .unset, .unset, .unset, .unset, .unset, .unset, .unset, .unset, .unset, .unset, .unset, .unset, .unset] [(.ref b1)])
  refine own_go (fun t_ k_ => XS.dup X2.here hx rfl (hb hby at_8) rfl rfl k_) ?_
  show own_Go p e below _ T2 (mkF m 9 #[.val (.long q1), .second, .val (.int p2), .val (.int p3), .val (.int p4), .val (.int p5), .unset, .unset, .unset, .unset, .unset, .unset, .unset, .unset, .unset, .unset, .unset, .unset, .unset, .unset, .unset, .unset, .unset, .unset, .unset, .unset, .unset, .unset, .unset, .unset, .unset] [(.ref b1), (.ref b1)])
  refine own_go (fun t_ k_ => XS.iconst X2.here hx rfl (hb hby at_9) k_) ?_
  show own_Go p e below _ T2 (mkF m 10 #[.val (.long q1), .second, .val (.int p2), .val (.int p3), .val (.int p4), .val (.int p5), .unset, .unset, .unset, .unset, .unset, .unset, .unset, .unset, .unset, .unset, .unset, .unset, .unset, .unset, .unset, .unset, .unset, .unset, .unset, .unset, .unset, .unset, .unset, .unset, .unset] [(.int (1 : Int32)), (.ref b1), (.ref b1)])
  refine own_go (fun t_ k_ => X2.ldc2Long hx hown (mvT hZ (own_w hw 1 rfl)) (g := (mkF m 10 #[.val (.long q1), .second, .val (.int p2), .val (.int p3), .val (.int p4), .val (.int p5), .unset, .unset, .unset, .unset, .unset, .unset, .unset, .unset, .unset, .unset, .unset, .unset, .unset, .unset, .unset, .unset, .unset, .unset, .unset, .unset, .unset, .unset, .unset, .unset, .unset] [(.int (1 : Int32)), (.ref b1), (.ref b1)])) rfl (hb hby at_10) t_ k_) ?_
  show own_Go p e below _ T2 (mkF m 13 #[.val (.long q1), .second, .val (.int p2), .val (.int p3), .val (.int p4), .val (.int p5), .unset, .unset, .unset, .unset, .unset, .unset, .unset, .unset, .unset, .unset, .unset, .unset, .unset, .unset, .unset, .unset, .unset, .unset, .unset, .unset, .unset, .unset, .unset, .unset, .unset] [(.long (10 : Int64)), (.int (1 : Int32)), (.ref b1), (.ref b1)])
  obtain ⟨T3, h3, L3, X3, N3, e3, W3, V3, st3⟩ := own_stJ X2 hx hZ e2 (j := (1 : Int32)) (vs' := [(.long (1 : Int64)), (.long (10 : Int64)), (.long (0 : Int64)), (.long (0 : Int64)), (.long (0 : Int64)), (.long (0 : Int64)), (.long (0 : Int64)), (.long (0 : Int64)), (.long (0 : Int64)), (.long (0 : Int64)), (.long (0 : Int64)), (.long (0 : Int64)), (.long (0 : Int64)), (.long (0 : Int64)), (.long (0 : Int64)), (.long (0 : Int64)), (.long (0 : Int64)), (.long (0 : Int64)), (.long (0 : Int64))]) V2  (by decide) 1 rfl (Nat.le_of_ble_eq_true rfl) rfl N2 ge_b1 (Ls := #[.val (.long q1), .second, .val (.int p2), .val (.int p3), .val (.int p4), .val (.int p5), .unset, .unset, .unset, .unset, .unset, .unset, .unset, .unset, .unset, .unset, .unset, .unset, .unset, .unset, .unset, .unset, .unset, .unset, .unset, .unset, .unset, .unset, .unset, .unset, .unset]) (rest := [(.ref b1)]) (hb hby at_13)
  have old3 := old2.wr W3 ge_b1
  refine own_go st3 ?_
  show own_Go p e below _ T3 (mkF m 14 #[.val (.long q1), .second, .val (.int p2), .val (.int p3), .val (.int p4), .val (.int p5), .unset, .unset, .unset, .unset, .unset, .unset, .unset, .unset, .unset, .unset, .unset, .unset, .unset, .unset, .unset, .unset, .unset, .unset, .unset, .unset, .unset, .unset, .unset, .unset, .unset] [(.ref b1)])
  refine own_go (fun t_ k_ => XS.dup X3.here hx rfl (hb hby at_14) rfl rfl k_) ?_
  show own_Go p e below _ T3 (mkF m 15 #[.val (.long q1), .second, .val (.int p2), .val (.int p3), .val (.int p4), .val (.int p5), .unset, .unset, .unset, .unset, .unset, .unset, .unset, .unset, .unset, .unset, .unset, .unset, .unset, .unset, .unset, .unset, .unset, .unset, .unset, .unset, .unset, .unset, .unset, .unset, .unset] [(.ref b1), (.ref b1)])
  refine own_go (fun t_ k_ => XS.iconst X3.here hx rfl (hb hby at_15) k_) ?_
  show own_Go p e below _ T3 (mkF m 16 #[.val (.long q1), .second, .val (.int p2), .val (.int p3), .val (.int p4), .val (.int p5), .unset, .unset, .unset, .unset, .unset, .unset, .unset, .unset, .unset, .unset, .unset, .unset, .unset, .unset, .unset, .unset, .unset, .unset, .unset, .unset, .unset, .unset, .unset, .unset, .unset] [(.int (2 : Int32)), (.ref b1), (.ref b1)])
  refine own_go (fun t_ k_ => X3.ldc2Long hx hown (mvT hZ (own_w hw 2 rfl)) (g := (mkF m 16 #[.val (.long q1), .second, .val (.int p2), .val (.int p3), .val (.int p4), .val (.int p5), .unset, .unset, .unset, .unset, .unset, .unset, .unset, .unset, .unset, .unset, .unset, .unset, .unset, .unset, .unset, .unset, .unset, .unset, .unset, .unset, .unset, .unset, .unset, .unset, .unset] [(.int (2 : Int32)), (.ref b1), (.ref b1)])) rfl (hb hby at_16) t_ k_) ?_
  show own_Go p e below _ T3 (mkF m 19 #[.val (.long q1), .second, .val (.int p2), .val (.int p3), .val (.int p4), .val (.int p5), .unset, .unset, .unset, .unset, .unset, .unset, .unset, .unset, .unset, .unset, .unset, .unset, .unset, .unset, .unset, .unset, .unset, .unset, .unset, .unset, .unset, .unset, .unset, .unset, .unset] [(.long (100 : Int64)), (.int (2 : Int32)), (.ref b1), (.ref b1)])
  obtain ⟨T4, h4, L4, X4, N4, e4, W4, V4, st4⟩ := own_stJ X3 hx hZ e3 (j := (2 : Int32)) (vs' := [(.long (1 : Int64)), (.long (10 : Int64)), (.long (100 : Int64)), (.long (0 : Int64)), (.long (0 : Int64)), (.long (0 : Int64)), (.long (0 : Int64)), (.long (0 : Int64)), (.long (0 : Int64)), (.long (0 : Int64)), (.long (0 : Int64)), (.long (0 : Int64)), (.long (0 : Int64)), (.long (0 : Int64)), (.long (0 : Int64)), (.long (0 : Int64)), (.long (0 : Int64)), (.long (0 : Int64)), (.long (0 : Int64))]) V3  (by decide) 2 rfl (Nat.le_of_ble_eq_true rfl) rfl N3 ge_b1 (Ls := #[.val (.long q1), .second, .val (.int p2), .val (.int p3), .val (.int p4), .val (.int p5), .unset, .unset, .unset, .unset, .unset, .unset, .unset, .unset, .unset, .unset, .unset, .unset, .unset, .unset, .unset, .unset, .unset, .unset, .unset, .unset, .unset, .unset, .unset, .unset, .unset]) (rest := [(.ref b1)]) (hb hby at_19)
  have old4 := old3.wr W4 ge_b1
  refine own_go st4 ?_
  show own_Go p e below _ T4 (mkF m 20 #[.val (.long q1), .second, .val (.int p2), .val (.int p3), .val (.int p4), .val (.int p5), .unset, .unset, .unset, .unset, .unset, .unset, .unset, .unset, .unset, .unset, .unset, .unset, .unset, .unset, .unset, .unset, .unset, .unset, .unset, .unset, .unset, .unset, .unset, .unset, .unset] [(.ref b1)])
  refine own_go (fun t_ k_ => XS.dup X4.here hx rfl (hb hby at_20) rfl rfl k_) ?_
  show own_Go p e below _ T4 (mkF m 21 #[.val (.long q1), .second, .val (.int p2), .val (.int p3), .val (.int p4), .val (.int p5), .unset, .unset, .unset, .unset, .unset, .unset, .unset, .unset, .unset, .unset, .unset, .unset, .unset, .unset, .unset, .unset, .unset, .unset, .unset, .unset, .unset, .unset, .unset, .unset, .unset] [(.ref b1), (.ref b1)])
  refine own_go (fun t_ k_ => XS.iconst X4.here hx rfl (hb hby at_21) k_) ?_
  show own_Go p e below _ T4 (mkF m 22 #[.val (.long q1), .second, .val (.int p2), .val (.int p3), .val (.int p4), .val (.int p5), .unset, .unset, .unset, .unset, .unset, .unset, .unset, .unset, .unset, .unset, .unset, .unset, .unset, .unset, .unset, .unset, .unset, .unset, .unset, .unset, .unset, .unset, .unset, .unset, .unset] [(.int (3 : Int32)), (.ref b1), (.ref b1)])
  refine own_go (fun t_ k_ => X4.ldc2Long hx hown (mvT hZ (own_w hw 3 rfl)) (g := (mkF m 22 #[.val (.long q1), .second, .val (.int p2), .val (.int p3), .val (.int p4), .val (.int p5), .unset, .unset, .unset, .unset, .unset, .unset, .unset, .unset, .unset, .unset, .unset, .unset, .unset, .unset, .unset, .unset, .unset, .unset, .unset, .unset, .unset, .unset, .unset, .unset, .unset] [(.int (3 : Int32)), (.ref b1), (.ref b1)])) rfl (hb hby at_22) t_ k_) ?_
  show own_Go p e below _ T4 (mkF m 25 #[.val (.long q1), .second, .val (.int p2), .val (.int p3), .val (.int p4), .val (.int p5), .unset, .unset, .unset, .unset, .unset, .unset, .unset, .unset, .unset, .unset, .unset, .unset, .unset, .unset, .unset, .unset, .unset, .unset, .unset, .unset, .unset, .unset, .unset, .unset, .unset] [(.long (1000 : Int64)), (.int (3 : Int32)), (.ref b1), (.ref b1)])
  obtain ⟨T5, h5, L5, X5, N5, e5, W5, V5, st5⟩ := own_stJ X4 hx hZ e4 (j := (3 : Int32)) (vs' := [(.long (1 : Int64)), (.long (10 : Int64)), (.long (100 : Int64)), (.long (1000 : Int64)), (.long (0 : Int64)), (.long (0 : Int64)), (.long (0 : Int64)), (.long (0 : Int64)), (.long (0 : Int64)), (.long (0 : Int64)), (.long (0 : Int64)), (.long (0 : Int64)), (.long (0 : Int64)), (.long (0 : Int64)), (.long (0 : Int64)), (.long (0 : Int64)), (.long (0 : Int64)), (.long (0 : Int64)), (.long (0 : Int64))]) V4  (by decide) 3 rfl (Nat.le_of_ble_eq_true rfl) rfl N4 ge_b1 (Ls := #[.val (.long q1), .second, .val (.int p2), .val (.int p3), .val (.int p4), .val (.int p5), .unset, .unset, .unset, .unset, .unset, .unset, .unset, .unset, .unset, .unset, .unset, .unset, .unset, .unset, .unset, .unset, .unset, .unset, .unset, .unset, .unset, .unset, .unset, .unset, .unset]) (rest := [(.ref b1)]) (hb hby at_25)
  have old5 := old4.wr W5 ge_b1
  refine own_go st5 ?_
  show own_Go p e below _ T5 (mkF m 26 #[.val (.long q1), .second, .val (.int p2), .val (.int p3), .val (.int p4), .val (.int p5), .unset, .unset, .unset, .unset, .unset, .unset, .unset, .unset, .unset, .unset, .unset, .unset, .unset, .unset, .unset, .unset, .unset, .unset, .unset, .unset, .unset, .unset, .unset, .unset, .unset] [(.ref b1)])
  refine own_go (fun t_ k_ => XS.dup X5.here hx rfl (hb hby at_26) rfl rfl k_) ?_
  show own_Go p e below _ T5 (mkF m 27 #[.val (.long q1), .second, .val (.int p2), .val (.int p3), .val (.int p4), .val (.int p5), .unset, .unset, .unset, .unset, .unset, .unset, .unset, .unset, .unset, .unset, .unset, .unset, .unset, .unset, .unset, .unset, .unset, .unset, .unset, .unset, .unset, .unset, .unset, .unset, .unset] [(.ref b1), (.ref b1)])
  refine own_go (fun t_ k_ => XS.iconst X5.here hx rfl (hb hby at_27) k_) ?_
  show own_Go p e below _ T5 (mkF m 28 #[.val (.long q1), .second, .val (.int p2), .val (.int p3), .val (.int p4), .val (.int p5), .unset, .unset, .unset, .unset, .unset, .unset, .unset, .unset, .unset, .unset, .unset, .unset, .unset, .unset, .unset, .unset, .unset, .unset, .unset, .unset, .unset, .unset, .unset, .unset, .unset] [(.int (4 : Int32)), (.ref b1), (.ref b1)])
  refine own_go (fun t_ k_ => X5.ldc2Long hx hown (mvT hZ (own_w hw 4 rfl)) (g := (mkF m 28 #[.val (.long q1), .second, .val (.int p2), .val (.int p3), .val (.int p4), .val (.int p5), .unset, .unset, .unset, .unset, .unset, .unset, .unset, .unset, .unset, .unset, .unset, .unset, .unset, .unset, .unset, .unset, .unset, .unset, .unset, .unset, .unset, .unset, .unset, .unset, .unset] [(.int (4 : Int32)), (.ref b1), (.ref b1)])) rfl (hb hby at_28) t_ k_) ?_
  show own_Go p e below _ T5 (mkF m 31 #[.val (.long q1), .second, .val (.int p2), .val (.int p3), .val (.int p4), .val (.int p5), .unset, .unset, .unset, .unset, .unset, .unset, .unset, .unset, .unset, .unset, .unset, .unset, .unset, .unset, .unset, .unset, .unset, .unset, .unset, .unset, .unset, .unset, .unset, .unset, .unset] [(.long (10000 : Int64)), (.int (4 : Int32)), (.ref b1), (.ref b1)])
  obtain ⟨T6, h6, L6, X6, N6, e6, W6, V6, st6⟩ := own_stJ X5 hx hZ e5 (j := (4 : Int32)) (vs' := [(.long (1 : Int64)), (.long (10 : Int64)), (.long (100 : Int64)), (.long (1000 : Int64)), (.long (10000 : Int64)), (.long (0 : Int64)), (.long (0 : Int64)), (.long (0 : Int64)), (.long (0 : Int64)), (.long (0 : Int64)), (.long (0 : Int64)), (.long (0 : Int64)), (.long (0 : Int64)), (.long (0 : Int64)), (.long (0 : Int64)), (.long (0 : Int64)), (.long (0 : Int64)), (.long (0 : Int64)), (.long (0 : Int64))]) V5  (by decide) 4 rfl (Nat.le_of_ble_eq_true rfl) rfl N5 ge_b1 (Ls := #[.val (.long q1), .second, .val (.int p2), .val (.int p3), .val (.int p4), .val (.int p5), .unset, .unset, .unset, .unset, .unset, .unset, .unset, .unset, .unset, .unset, .unset, .unset, .unset, .unset, .unset, .unset, .unset, .unset, .unset, .unset, .unset, .unset, .unset, .unset, .unset]) (rest := [(.ref b1)]) (hb hby at_31)
  have old6 := old5.wr W6 ge_b1
  refine own_go st6 ?_
  show own_Go p e below _ T6 (mkF m 32 #[.val (.long q1), .second, .val (.int p2), .val (.int p3), .val (.int p4), .val (.int p5), .unset, .unset, .unset, .unset, .unset, .unset, .unset, .unset, .unset, .unset, .unset, .unset, .unset, .unset, .unset, .unset, .unset, .unset, .unset, .unset, .unset, .unset, .unset, .unset, .unset] [(.ref b1)])
  refine own_go (fun t_ k_ => XS.dup X6.here hx rfl (hb hby at_32) rfl rfl k_) ?_
  show own_Go p e below _ T6 (mkF m 33 #[.val (.long q1), .second, .val (.int p2), .val (.int p3), .val (.int p4), .val (.int p5), .unset, .unset, .unset, .unset, .unset, .unset, .unset, .unset, .unset, .unset, .unset, .unset, .unset, .unset, .unset, .unset, .unset, .unset, .unset, .unset, .unset, .unset, .unset, .unset, .unset] [(.ref b1), (.ref b1)])
  refine own_go (fun t_ k_ => XS.iconst X6.here hx rfl (hb hby at_33) k_) ?_
  show own_Go p e below _ T6 (mkF m 34 #[.val (.long q1), .second, .val (.int p2), .val (.int p3), .val (.int p4), .val (.int p5), .unset, .unset, .unset, .unset, .unset, .unset, .unset, .unset, .unset, .unset, .unset, .unset, .unset, .unset, .unset, .unset, .unset, .unset, .unset, .unset, .unset, .unset, .unset, .unset, .unset] [(.int (5 : Int32)), (.ref b1), (.ref b1)])
  refine own_go (fun t_ k_ => X6.ldc2Long hx hown (mvT hZ (own_w hw 5 rfl)) (g := (mkF m 34 #[.val (.long q1), .second, .val (.int p2), .val (.int p3), .val (.int p4), .val (.int p5), .unset, .unset, .unset, .unset, .unset, .unset, .unset, .unset, .unset, .unset, .unset, .unset, .unset, .unset, .unset, .unset, .unset, .unset, .unset, .unset, .unset, .unset, .unset, .unset, .unset] [(.int (5 : Int32)), (.ref b1), (.ref b1)])) rfl (hb hby at_34) t_ k_) ?_
  show own_Go p e below _ T6 (mkF m 37 #[.val (.long q1), .second, .val (.int p2), .val (.int p3), .val (.int p4), .val (.int p5), .unset, .unset, .unset, .unset, .unset, .unset, .unset, .unset, .unset, .unset, .unset, .unset, .unset, .unset, .unset, .unset, .unset, .unset, .unset, .unset, .unset, .unset, .unset, .unset, .unset] [(.long (100000 : Int64)), (.int (5 : Int32)), (.ref b1), (.ref b1)])
  obtain ⟨T7, h7, L7, X7, N7, e7, W7, V7, st7⟩ := own_stJ X6 hx hZ e6 (j := (5 : Int32)) (vs' := [(.long (1 : Int64)), (.long (10 : Int64)), (.long (100 : Int64)), (.long (1000 : Int64)), (.long (10000 : Int64)), (.long (100000 : Int64)), (.long (0 : Int64)), (.long (0 : Int64)), (.long (0 : Int64)), (.long (0 : Int64)), (.long (0 : Int64)), (.long (0 : Int64)), (.long (0 : Int64)), (.long (0 : Int64)), (.long (0 : Int64)), (.long (0 : Int64)), (.long (0 : Int64)), (.long (0 : Int64)), (.long (0 : Int64))]) V6  (by decide) 5 rfl (Nat.le_of_ble_eq_true rfl) rfl N6 ge_b1 (Ls := #[.val (.long q1), .second, .val (.int p2), .val (.int p3), .val (.int p4), .val (.int p5), .unset, .unset, .unset, .unset, .unset, .unset, .unset, .unset, .unset, .unset, .unset, .unset, .unset, .unset, .unset, .unset, .unset, .unset, .unset, .unset, .unset, .unset, .unset, .unset, .unset]) (rest := [(.ref b1)]) (hb hby at_37)
  have old7 := old6.wr W7 ge_b1
  refine own_go st7 ?_
  show own_Go p e below _ T7 (mkF m 38 #[.val (.long q1), .second, .val (.int p2), .val (.int p3), .val (.int p4), .val (.int p5), .unset, .unset, .unset, .unset, .unset, .unset, .unset, .unset, .unset, .unset, .unset, .unset, .unset, .unset, .unset, .unset, .unset, .unset, .unset, .unset, .unset, .unset, .unset, .unset, .unset] [(.ref b1)])
  refine own_go (fun t_ k_ => XS.dup X7.here hx rfl (hb hby at_38) rfl rfl k_) ?_
  show own_Go p e below _ T7 (mkF m 39 #[.val (.long q1), .second, .val (.int p2), .val (.int p3), .val (.int p4), .val (.int p5), .unset, .unset, .unset, .unset, .unset, .unset, .unset, .unset, .unset, .unset, .unset, .unset, .unset, .unset, .unset, .unset, .unset, .unset, .unset, .unset, .unset, .unset, .unset, .unset, .unset] [(.ref b1), (.ref b1)])
  refine own_go (fun t_ k_ => XS.bipush X7.here hx rfl (hb hby at_39) k_) ?_
  show own_Go p e below _ T7 (mkF m 41 #[.val (.long q1), .second, .val (.int p2), .val (.int p3), .val (.int p4), .val (.int p5), .unset, .unset, .unset, .unset, .unset, .unset, .unset, .unset, .unset, .unset, .unset, .unset, .unset, .unset, .unset, .unset, .unset, .unset, .unset, .unset, .unset, .unset, .unset, .unset, .unset] [(.int (6 : Int32)), (.ref b1), (.ref b1)])
  refine own_go (fun t_ k_ => X7.ldc2Long hx hown (mvT hZ (own_w hw 6 rfl)) (g := (mkF m 41 #[.val (.long q1), .second, .val (.int p2), .val (.int p3), .val (.int p4), .val (.int p5), .unset, .unset, .unset, .unset, .unset, .unset, .unset, .unset, .unset, .unset, .unset, .unset, .unset, .unset, .unset, .unset, .unset, .unset, .unset, .unset, .unset, .unset, .unset, .unset, .unset] [(.int (6 : Int32)), (.ref b1), (.ref b1)])) rfl (hb hby at_41) t_ k_) ?_
  show own_Go p e below _ T7 (mkF m 44 #[.val (.long q1), .second, .val (.int p2), .val (.int p3), .val (.int p4), .val (.int p5), .unset, .unset, .unset, .unset, .unset, .unset, .unset, .unset, .unset, .unset, .unset, .unset, .unset, .unset, .unset, .unset, .unset, .unset, .unset, .unset, .unset, .unset, .unset, .unset, .unset] [(.long (1000000 : Int64)), (.int (6 : Int32)), (.ref b1), (.ref b1)])
  obtain ⟨T8, h8, L8, X8, N8, e8, W8, V8, st8⟩ := own_stJ X7 hx hZ e7 (j := (6 : Int32)) (vs' := [(.long (1 : Int64)), (.long (10 : Int64)), (.long (100 : Int64)), (.long (1000 : Int64)), (.long (10000 : Int64)), (.long (100000 : Int64)), (.long (1000000 : Int64)), (.long (0 : Int64)), (.long (0 : Int64)), (.long (0 : Int64)), (.long (0 : Int64)), (.long (0 : Int64)), (.long (0 : Int64)), (.long (0 : Int64)), (.long (0 : Int64)), (.long (0 : Int64)), (.long (0 : Int64)), (.long (0 : Int64)), (.long (0 : Int64))]) V7  (by decide) 6 rfl (Nat.le_of_ble_eq_true rfl) rfl N7 ge_b1 (Ls := #[.val (.long q1), .second, .val (.int p2), .val (.int p3), .val (.int p4), .val (.int p5), .unset, .unset, .unset, .unset, .unset, .unset, .unset, .unset, .unset, .unset, .unset, .unset, .unset, .unset, .unset, .unset, .unset, .unset, .unset, .unset, .unset, .unset, .unset, .unset, .unset]) (rest := [(.ref b1)]) (hb hby at_44)
  have old8 := old7.wr W8 ge_b1
  refine own_go st8 ?_
  show own_Go p e below _ T8 (mkF m 45 #[.val (.long q1), .second, .val (.int p2), .val (.int p3), .val (.int p4), .val (.int p5), .unset, .unset, .unset, .unset, .unset, .unset, .unset, .unset, .unset, .unset, .unset, .unset, .unset, .unset, .unset, .unset, .unset, .unset, .unset, .unset, .unset, .unset, .unset, .unset, .unset] [(.ref b1)])
  refine own_go (fun t_ k_ => XS.dup X8.here hx rfl (hb hby at_45) rfl rfl k_) ?_
  show own_Go p e below _ T8 (mkF m 46 #[.val (.long q1), .second, .val (.int p2), .val (.int p3), .val (.int p4), .val (.int p5), .unset, .unset, .unset, .unset, .unset, .unset, .unset, .unset, .unset, .unset, .unset, .unset, .unset, .unset, .unset, .unset, .unset, .unset, .unset, .unset, .unset, .unset, .unset, .unset, .unset] [(.ref b1), (.ref b1)])
  refine own_go (fun t_ k_ => XS.bipush X8.here hx rfl (hb hby at_46) k_) ?_
  show own_Go p e below _ T8 (mkF m 48 #[.val (.long q1), .second, .val (.int p2), .val (.int p3), .val (.int p4), .val (.int p5), .unset, .unset, .unset, .unset, .unset, .unset, .unset, .unset, .unset, .unset, .unset, .unset, .unset, .unset, .unset, .unset, .unset, .unset, .unset, .unset, .unset, .unset, .unset, .unset, .unset] [(.int (7 : Int32)), (.ref b1), (.ref b1)])
  refine own_go (fun t_ k_ => X8.ldc2Long hx hown (mvT hZ (own_w hw 7 rfl)) (g := (mkF m 48 #[.val (.long q1), .second, .val (.int p2), .val (.int p3), .val (.int p4), .val (.int p5), .unset, .unset, .unset, .unset, .unset, .unset, .unset, .unset, .unset, .unset, .unset, .unset, .unset, .unset, .unset, .unset, .unset, .unset, .unset, .unset, .unset, .unset, .unset, .unset, .unset] [(.int (7 : Int32)), (.ref b1), (.ref b1)])) rfl (hb hby at_48) t_ k_) ?_
  show own_Go p e below _ T8 (mkF m 51 #[.val (.long q1), .second, .val (.int p2), .val (.int p3), .val (.int p4), .val (.int p5), .unset, .unset, .unset, .unset, .unset, .unset, .unset, .unset, .unset, .unset, .unset, .unset, .unset, .unset, .unset, .unset, .unset, .unset, .unset, .unset, .unset, .unset, .unset, .unset, .unset] [(.long (10000000 : Int64)), (.int (7 : Int32)), (.ref b1), (.ref b1)])
  obtain ⟨T9, h9, L9, X9, N9, e9, W9, V9, st9⟩ := own_stJ X8 hx hZ e8 (j := (7 : Int32)) (vs' := [(.long (1 : Int64)), (.long (10 : Int64)), (.long (100 : Int64)), (.long (1000 : Int64)), (.long (10000 : Int64)), (.long (100000 : Int64)), (.long (1000000 : Int64)), (.long (10000000 : Int64)), (.long (0 : Int64)), (.long (0 : Int64)), (.long (0 : Int64)), (.long (0 : Int64)), (.long (0 : Int64)), (.long (0 : Int64)), (.long (0 : Int64)), (.long (0 : Int64)), (.long (0 : Int64)), (.long (0 : Int64)), (.long (0 : Int64))]) V8  (by decide) 7 rfl (Nat.le_of_ble_eq_true rfl) rfl N8 ge_b1 (Ls := #[.val (.long q1), .second, .val (.int p2), .val (.int p3), .val (.int p4), .val (.int p5), .unset, .unset, .unset, .unset, .unset, .unset, .unset, .unset, .unset, .unset, .unset, .unset, .unset, .unset, .unset, .unset, .unset, .unset, .unset, .unset, .unset, .unset, .unset, .unset, .unset]) (rest := [(.ref b1)]) (hb hby at_51)
  have old9 := old8.wr W9 ge_b1
  refine own_go st9 ?_
  show own_Go p e below _ T9 (mkF m 52 #[.val (.long q1), .second, .val (.int p2), .val (.int p3), .val (.int p4), .val (.int p5), .unset, .unset, .unset, .unset, .unset, .unset, .unset, .unset, .unset, .unset, .unset, .unset, .unset, .unset, .unset, .unset, .unset, .unset, .unset, .unset, .unset, .unset, .unset, .unset, .unset] [(.ref b1)])
  refine own_go (fun t_ k_ => XS.dup X9.here hx rfl (hb hby at_52) rfl rfl k_) ?_
  show own_Go p e below _ T9 (mkF m 53 #[.val (.long q1), .second, .val (.int p2), .val (.int p3), .val (.int p4), .val (.int p5), .unset, .unset, .unset, .unset, .unset, .unset, .unset, .unset, .unset, .unset, .unset, .unset, .unset, .unset, .unset, .unset, .unset, .unset, .unset, .unset, .unset, .unset, .unset, .unset, .unset] [(.ref b1), (.ref b1)])
  refine own_go (fun t_ k_ => XS.bipush X9.here hx rfl (hb hby at_53) k_) ?_
  show own_Go p e below _ T9 (mkF m 55 #[.val (.long q1), .second, .val (.int p2), .val (.int p3), .val (.int p4), .val (.int p5), .unset, .unset, .unset, .unset, .unset, .unset, .unset, .unset, .unset, .unset, .unset, .unset, .unset, .unset, .unset, .unset, .unset, .unset, .unset, .unset, .unset, .unset, .unset, .unset, .unset] [(.int (8 : Int32)), (.ref b1), (.ref b1)])
  refine own_go (fun t_ k_ => X9.ldc2Long hx hown (mvT hZ (own_w hw 8 rfl)) (g := (mkF m 55 #[.val (.long q1), .second, .val (.int p2), .val (.int p3), .val (.int p4), .val (.int p5), .unset, .unset, .unset, .unset, .unset, .unset, .unset, .unset, .unset, .unset, .unset, .unset, .unset, .unset, .unset, .unset, .unset, .unset, .unset, .unset, .unset, .unset, .unset, .unset, .unset] [(.int (8 : Int32)), (.ref b1), (.ref b1)])) rfl (hb hby at_55) t_ k_) ?_
  show own_Go p e below _ T9 (mkF m 58 #[.val (.long q1), .second, .val (.int p2), .val (.int p3), .val (.int p4), .val (.int p5), .unset, .unset, .unset, .unset, .unset, .unset, .unset, .unset, .unset, .unset, .unset, .unset, .unset, .unset, .unset, .unset, .unset, .unset, .unset, .unset, .unset, .unset, .unset, .unset, .unset] [(.long (100000000 : Int64)), (.int (8 : Int32)), (.ref b1), (.ref b1)])
  obtain ⟨T10, h10, L10, X10, N10, e10, W10, V10, st10⟩ := own_stJ X9 hx hZ e9 (j := (8 : Int32)) (vs' := [(.long (1 : Int64)), (.long (10 : Int64)), (.long (100 : Int64)), (.long (1000 : Int64)), (.long (10000 : Int64)), (.long (100000 : Int64)), (.long (1000000 : Int64)), (.long (10000000 : Int64)), (.long (100000000 : Int64)), (.long (0 : Int64)), (.long (0 : Int64)), (.long (0 : Int64)), (.long (0 : Int64)), (.long (0 : Int64)), (.long (0 : Int64)), (.long (0 : Int64)), (.long (0 : Int64)), (.long (0 : Int64)), (.long (0 : Int64))]) V9  (by decide) 8 rfl (Nat.le_of_ble_eq_true rfl) rfl N9 ge_b1 (Ls := #[.val (.long q1), .second, .val (.int p2), .val (.int p3), .val (.int p4), .val (.int p5), .unset, .unset, .unset, .unset, .unset, .unset, .unset, .unset, .unset, .unset, .unset, .unset, .unset, .unset, .unset, .unset, .unset, .unset, .unset, .unset, .unset, .unset, .unset, .unset, .unset]) (rest := [(.ref b1)]) (hb hby at_58)
  have old10 := old9.wr W10 ge_b1
  refine own_go st10 ?_
  show own_Go p e below _ T10 (mkF m 59 #[.val (.long q1), .second, .val (.int p2), .val (.int p3), .val (.int p4), .val (.int p5), .unset, .unset, .unset, .unset, .unset, .unset, .unset, .unset, .unset, .unset, .unset, .unset, .unset, .unset, .unset, .unset, .unset, .unset, .unset, .unset, .unset, .unset, .unset, .unset, .unset] [(.ref b1)])
  refine own_go (fun t_ k_ => XS.dup X10.here hx rfl (hb hby at_59) rfl rfl k_) ?_
  show own_Go p e below _ T10 (mkF m 60 #[.val (.long q1), .second, .val (.int p2), .val (.int p3), .val (.int p4), .val (.int p5), .unset, .unset, .unset, .unset, .unset, .unset, .unset, .unset, .unset, .unset, .unset, .unset, .unset, .unset, .unset, .unset, .unset, .unset, .unset, .unset, .unset, .unset, .unset, .unset, .unset] [(.ref b1), (.ref b1)])
  refine own_go (fun t_ k_ => XS.bipush X10.here hx rfl (hb hby at_60) k_) ?_
  show own_Go p e below _ T10 (mkF m 62 #[.val (.long q1), .second, .val (.int p2), .val (.int p3), .val (.int p4), .val (.int p5), .unset, .unset, .unset, .unset, .unset, .unset, .unset, .unset, .unset, .unset, .unset, .unset, .unset, .unset, .unset, .unset, .unset, .unset, .unset, .unset, .unset, .unset, .unset, .unset, .unset] [(.int (9 : Int32)), (.ref b1), (.ref b1)])
  refine own_go (fun t_ k_ => X10.ldc2Long hx hown (mvT hZ (own_w hw 9 rfl)) (g := (mkF m 62 #[.val (.long q1), .second, .val (.int p2), .val (.int p3), .val (.int p4), .val (.int p5), .unset, .unset, .unset, .unset, .unset, .unset, .unset, .unset, .unset, .unset, .unset, .unset, .unset, .unset, .unset, .unset, .unset, .unset, .unset, .unset, .unset, .unset, .unset, .unset, .unset] [(.int (9 : Int32)), (.ref b1), (.ref b1)])) rfl (hb hby at_62) t_ k_) ?_
  show own_Go p e below _ T10 (mkF m 65 #[.val (.long q1), .second, .val (.int p2), .val (.int p3), .val (.int p4), .val (.int p5), .unset, .unset, .unset, .unset, .unset, .unset, .unset, .unset, .unset, .unset, .unset, .unset, .unset, .unset, .unset, .unset, .unset, .unset, .unset, .unset, .unset, .unset, .unset, .unset, .unset] [(.long (1000000000 : Int64)), (.int (9 : Int32)), (.ref b1), (.ref b1)])
  obtain ⟨T11, h11, L11, X11, N11, e11, W11, V11, st11⟩ := own_stJ X10 hx hZ e10 (j := (9 : Int32)) (vs' := [(.long (1 : Int64)), (.long (10 : Int64)), (.long (100 : Int64)), (.long (1000 : Int64)), (.long (10000 : Int64)), (.long (100000 : Int64)), (.long (1000000 : Int64)), (.long (10000000 : Int64)), (.long (100000000 : Int64)), (.long (1000000000 : Int64)), (.long (0 : Int64)), (.long (0 : Int64)), (.long (0 : Int64)), (.long (0 : Int64)), (.long (0 : Int64)), (.long (0 : Int64)), (.long (0 : Int64)), (.long (0 : Int64)), (.long (0 : Int64))]) V10  (by decide) 9 rfl (Nat.le_of_ble_eq_true rfl) rfl N10 ge_b1 (Ls := #[.val (.long q1), .second, .val (.int p2), .val (.int p3), .val (.int p4), .val (.int p5), .unset, .unset, .unset, .unset, .unset, .unset, .unset, .unset, .unset, .unset, .unset, .unset, .unset, .unset, .unset, .unset, .unset, .unset, .unset, .unset, .unset, .unset, .unset, .unset, .unset]) (rest := [(.ref b1)]) (hb hby at_65)
  have old11 := old10.wr W11 ge_b1
  refine own_go st11 ?_
  show own_Go p e below _ T11 (mkF m 66 #[.val (.long q1), .second, .val (.int p2), .val (.int p3), .val (.int p4), .val (.int p5), .unset, .unset, .unset, .unset, .unset, .unset, .unset, .unset, .unset, .unset, .unset, .unset, .unset, .unset, .unset, .unset, .unset, .unset, .unset, .unset, .unset, .unset, .unset, .unset, .unset] [(.ref b1)])
  refine own_go (fun t_ k_ => XS.dup X11.here hx rfl (hb hby at_66) rfl rfl k_) ?_
  show own_Go p e below _ T11 (mkF m 67 #[.val (.long q1), .second, .val (.int p2), .val (.int p3), .val (.int p4), .val (.int p5), .unset, .unset, .unset, .unset, .unset, .unset, .unset, .unset, .unset, .unset, .unset, .unset, .unset, .unset, .unset, .unset, .unset, .unset, .unset, .unset, .unset, .unset, .unset, .unset, .unset] [(.ref b1), (.ref b1)])
  refine own_go (fun t_ k_ => XS.bipush X11.here hx rfl (hb hby at_67) k_) ?_
  show own_Go p e below _ T11 (mkF m 69 #[.val (.long q1), .second, .val (.int p2), .val (.int p3), .val (.int p4), .val (.int p5), .unset, .unset, .unset, .unset, .unset, .unset, .unset, .unset, .unset, .unset, .unset, .unset, .unset, .unset, .unset, .unset, .unset, .unset, .unset, .unset, .unset, .unset, .unset, .unset, .unset] [(.int (10 : Int32)), (.ref b1), (.ref b1)])
  refine own_go (fun t_ k_ => X11.ldc2Long hx hown (mvT hZ (own_w hw 10 rfl)) (g := (mkF m 69 #[.val (.long q1), .second, .val (.int p2), .val (.int p3), .val (.int p4), .val (.int p5), .unset, .unset, .unset, .unset, .unset, .unset, .unset, .unset, .unset, .unset, .unset, .unset, .unset, .unset, .unset, .unset, .unset, .unset, .unset, .unset, .unset, .unset, .unset, .unset, .unset] [(.int (10 : Int32)), (.ref b1), (.ref b1)])) rfl (hb hby at_69) t_ k_) ?_
  show own_Go p e below _ T11 (mkF m 72 #[.val (.long q1), .second, .val (.int p2), .val (.int p3), .val (.int p4), .val (.int p5), .unset, .unset, .unset, .unset, .unset, .unset, .unset, .unset, .unset, .unset, .unset, .unset, .unset, .unset, .unset, .unset, .unset, .unset, .unset, .unset, .unset, .unset, .unset, .unset, .unset] [(.long (10000000000 : Int64)), (.int (10 : Int32)), (.ref b1), (.ref b1)])
  obtain ⟨T12, h12, L12, X12, N12, e12, W12, V12, st12⟩ := own_stJ X11 hx hZ e11 (j := (10 : Int32)) (vs' := [(.long (1 : Int64)), (.long (10 : Int64)), (.long (100 : Int64)), (.long (1000 : Int64)), (.long (10000 : Int64)), (.long (100000 : Int64)), (.long (1000000 : Int64)), (.long (10000000 : Int64)), (.long (100000000 : Int64)), (.long (1000000000 : Int64)), (.long (10000000000 : Int64)), (.long (0 : Int64)), (.long (0 : Int64)), (.long (0 : Int64)), (.long (0 : Int64)), (.long (0 : Int64)), (.long (0 : Int64)), (.long (0 : Int64)), (.long (0 : Int64))]) V11  (by decide) 10 rfl (Nat.le_of_ble_eq_true rfl) rfl N11 ge_b1 (Ls := #[.val (.long q1), .second, .val (.int p2), .val (.int p3), .val (.int p4), .val (.int p5), .unset, .unset, .unset, .unset, .unset, .unset, .unset, .unset, .unset, .unset, .unset, .unset, .unset, .unset, .unset, .unset, .unset, .unset, .unset, .unset, .unset, .unset, .unset, .unset, .unset]) (rest := [(.ref b1)]) (hb hby at_72)
  have old12 := old11.wr W12 ge_b1
  refine own_go st12 ?_
  show own_Go p e below _ T12 (mkF m 73 #[.val (.long q1), .second, .val (.int p2), .val (.int p3), .val (.int p4), .val (.int p5), .unset, .unset, .unset, .unset, .unset, .unset, .unset, .unset, .unset, .unset, .unset, .unset, .unset, .unset, .unset, .unset, .unset, .unset, .unset, .unset, .unset, .unset, .unset, .unset, .unset] [(.ref b1)])
  refine own_go (fun t_ k_ => XS.dup X12.here hx rfl (hb hby at_73) rfl rfl k_) ?_
  show own_Go p e below _ T12 (mkF m 74 #[.val (.long q1), .second, .val (.int p2), .val (.int p3), .val (.int p4), .val (.int p5), .unset, .unset, .unset, .unset, .unset, .unset, .unset, .unset, .unset, .unset, .unset, .unset, .unset, .unset, .unset, .unset, .unset, .unset, .unset, .unset, .unset, .unset, .unset, .unset, .unset] [(.ref b1), (.ref b1)])
  refine own_go (fun t_ k_ => XS.bipush X12.here hx rfl (hb hby at_74) k_) ?_
  show own_Go p e below _ T12 (mkF m 76 #[.val (.long q1), .second, .val (.int p2), .val (.int p3), .val (.int p4), .val (.int p5), .unset, .unset, .unset, .unset, .unset, .unset, .unset, .unset, .unset, .unset, .unset, .unset, .unset, .unset, .unset, .unset, .unset, .unset, .unset, .unset, .unset, .unset, .unset, .unset, .unset] [(.int (11 : Int32)), (.ref b1), (.ref b1)])
  refine own_go (fun t_ k_ => X12.ldc2Long hx hown (mvT hZ (own_w hw 11 rfl)) (g := (mkF m 76 #[.val (.long q1), .second, .val (.int p2), .val (.int p3), .val (.int p4), .val (.int p5), .unset, .unset, .unset, .unset, .unset, .unset, .unset, .unset, .unset, .unset, .unset, .unset, .unset, .unset, .unset, .unset, .unset, .unset, .unset, .unset, .unset, .unset, .unset, .unset, .unset] [(.int (11 : Int32)), (.ref b1), (.ref b1)])) rfl (hb hby at_76) t_ k_) ?_
  show own_Go p e below _ T12 (mkF m 79 #[.val (.long q1), .second, .val (.int p2), .val (.int p3), .val (.int p4), .val (.int p5), .unset, .unset, .unset, .unset, .unset, .unset, .unset, .unset, .unset, .unset, .unset, .unset, .unset, .unset, .unset, .unset, .unset, .unset, .unset, .unset, .unset, .unset, .unset, .unset, .unset] [(.long (100000000000 : Int64)), (.int (11 : Int32)), (.ref b1), (.ref b1)])
  obtain ⟨T13, h13, L13, X13, N13, e13, W13, V13, st13⟩ := own_stJ X12 hx hZ e12 (j := (11 : Int32)) (vs' := [(.long (1 : Int64)), (.long (10 : Int64)), (.long (100 : Int64)), (.long (1000 : Int64)), (.long (10000 : Int64)), (.long (100000 : Int64)), (.long (1000000 : Int64)), (.long (10000000 : Int64)), (.long (100000000 : Int64)), (.long (1000000000 : Int64)), (.long (10000000000 : Int64)), (.long (100000000000 : Int64)), (.long (0 : Int64)), (.long (0 : Int64)), (.long (0 : Int64)), (.long (0 : Int64)), (.long (0 : Int64)), (.long (0 : Int64)), (.long (0 : Int64))]) V12  (by decide) 11 rfl (Nat.le_of_ble_eq_true rfl) rfl N12 ge_b1 (Ls := #[.val (.long q1), .second, .val (.int p2), .val (.int p3), .val (.int p4), .val (.int p5), .unset, .unset, .unset, .unset, .unset, .unset, .unset, .unset, .unset, .unset, .unset, .unset, .unset, .unset, .unset, .unset, .unset, .unset, .unset, .unset, .unset, .unset, .unset, .unset, .unset]) (rest := [(.ref b1)]) (hb hby at_79)
  have old13 := old12.wr W13 ge_b1
  refine own_go st13 ?_
  show own_Go p e below _ T13 (mkF m 80 #[.val (.long q1), .second, .val (.int p2), .val (.int p3), .val (.int p4), .val (.int p5), .unset, .unset, .unset, .unset, .unset, .unset, .unset, .unset, .unset, .unset, .unset, .unset, .unset, .unset, .unset, .unset, .unset, .unset, .unset, .unset, .unset, .unset, .unset, .unset, .unset] [(.ref b1)])
  refine own_go (fun t_ k_ => XS.dup X13.here hx rfl (hb hby at_80) rfl rfl k_) ?_
  show own_Go p e below _ T13 (mkF m 81 #[.val (.long q1), .second, .val (.int p2), .val (.int p3), .val (.int p4), .val (.int p5), .unset, .unset, .unset, .unset, .unset, .unset, .unset, .unset, .unset, .unset, .unset, .unset, .unset, .unset, .unset, .unset, .unset, .unset, .unset, .unset, .unset, .unset, .unset, .unset, .unset] [(.ref b1), (.ref b1)])
  refine own_go (fun t_ k_ => XS.bipush X13.here hx rfl (hb hby at_81) k_) ?_
  show own_Go p e below _ T13 (mkF m 83 #[.val (.long q1), .second, .val (.int p2), .val (.int p3), .val (.int p4), .val (.int p5), .unset, .unset, .unset, .unset, .unset, .unset, .unset, .unset, .unset, .unset, .unset, .unset, .unset, .unset, .unset, .unset, .unset, .unset, .unset, .unset, .unset, .unset, .unset, .unset, .unset] [(.int (12 : Int32)), (.ref b1), (.ref b1)])
  refine own_go (fun t_ k_ => X13.ldc2Long hx hown (mvT hZ (own_w hw 12 rfl)) (g := (mkF m 83 #[.val (.long q1), .second, .val (.int p2), .val (.int p3), .val (.int p4), .val (.int p5), .unset, .unset, .unset, .unset, .unset, .unset, .unset, .unset, .unset, .unset, .unset, .unset, .unset, .unset, .unset, .unset, .unset, .unset, .unset, .unset, .unset, .unset, .unset, .unset, .unset] [(.int (12 : Int32)), (.ref b1), (.ref b1)])) rfl (hb hby at_83) t_ k_) ?_
  show own_Go p e below _ T13 (mkF m 86 #[.val (.long q1), .second, .val (.int p2), .val (.int p3), .val (.int p4), .val (.int p5), .unset, .unset, .unset, .unset, .unset, .unset, .unset, .unset, .unset, .unset, .unset, .unset, .unset, .unset, .unset, .unset, .unset, .unset, .unset, .unset, .unset, .unset, .unset, .unset, .unset] [(.long (1000000000000 : Int64)), (.int (12 : Int32)), (.ref b1), (.ref b1)])
  obtain ⟨T14, h14, L14, X14, N14, e14, W14, V14, st14⟩ := own_stJ X13 hx hZ e13 (j := (12 : Int32)) (vs' := [(.long (1 : Int64)), (.long (10 : Int64)), (.long (100 : Int64)), (.long (1000 : Int64)), (.long (10000 : Int64)), (.long (100000 : Int64)), (.long (1000000 : Int64)), (.long (10000000 : Int64)), (.long (100000000 : Int64)), (.long (1000000000 : Int64)), (.long (10000000000 : Int64)), (.long (100000000000 : Int64)), (.long (1000000000000 : Int64)), (.long (0 : Int64)), (.long (0 : Int64)), (.long (0 : Int64)), (.long (0 : Int64)), (.long (0 : Int64)), (.long (0 : Int64))]) V13  (by decide) 12 rfl (Nat.le_of_ble_eq_true rfl) rfl N13 ge_b1 (Ls := #[.val (.long q1), .second, .val (.int p2), .val (.int p3), .val (.int p4), .val (.int p5), .unset, .unset, .unset, .unset, .unset, .unset, .unset, .unset, .unset, .unset, .unset, .unset, .unset, .unset, .unset, .unset, .unset, .unset, .unset, .unset, .unset, .unset, .unset, .unset, .unset]) (rest := [(.ref b1)]) (hb hby at_86)
  have old14 := old13.wr W14 ge_b1
  refine own_go st14 ?_
  show own_Go p e below _ T14 (mkF m 87 #[.val (.long q1), .second, .val (.int p2), .val (.int p3), .val (.int p4), .val (.int p5), .unset, .unset, .unset, .unset, .unset, .unset, .unset, .unset, .unset, .unset, .unset, .unset, .unset, .unset, .unset, .unset, .unset, .unset, .unset, .unset, .unset, .unset, .unset, .unset, .unset] [(.ref b1)])
  refine own_go (fun t_ k_ => XS.dup X14.here hx rfl (hb hby at_87) rfl rfl k_) ?_
  show own_Go p e below _ T14 (mkF m 88 #[.val (.long q1), .second, .val (.int p2), .val (.int p3), .val (.int p4), .val (.int p5), .unset, .unset, .unset, .unset, .unset, .unset, .unset, .unset, .unset, .unset, .unset, .unset, .unset, .unset, .unset, .unset, .unset, .unset, .unset, .unset, .unset, .unset, .unset, .unset, .unset] [(.ref b1), (.ref b1)])
  refine own_go (fun t_ k_ => XS.bipush X14.here hx rfl (hb hby at_88) k_) ?_
  show own_Go p e below _ T14 (mkF m 90 #[.val (.long q1), .second, .val (.int p2), .val (.int p3), .val (.int p4), .val (.int p5), .unset, .unset, .unset, .unset, .unset, .unset, .unset, .unset, .unset, .unset, .unset, .unset, .unset, .unset, .unset, .unset, .unset, .unset, .unset, .unset, .unset, .unset, .unset, .unset, .unset] [(.int (13 : Int32)), (.ref b1), (.ref b1)])
  refine own_go (fun t_ k_ => X14.ldc2Long hx hown (mvT hZ (own_w hw 13 rfl)) (g := (mkF m 90 #[.val (.long q1), .second, .val (.int p2), .val (.int p3), .val (.int p4), .val (.int p5), .unset, .unset, .unset, .unset, .unset, .unset, .unset, .unset, .unset, .unset, .unset, .unset, .unset, .unset, .unset, .unset, .unset, .unset, .unset, .unset, .unset, .unset, .unset, .unset, .unset] [(.int (13 : Int32)), (.ref b1), (.ref b1)])) rfl (hb hby at_90) t_ k_) ?_
  show own_Go p e below _ T14 (mkF m 93 #[.val (.long q1), .second, .val (.int p2), .val (.int p3), .val (.int p4), .val (.int p5), .unset, .unset, .unset, .unset, .unset, .unset, .unset, .unset, .unset, .unset, .unset, .unset, .unset, .unset, .unset, .unset, .unset, .unset, .unset, .unset, .unset, .unset, .unset, .unset, .unset] [(.long (10000000000000 : Int64)), (.int (13 : Int32)), (.ref b1), (.ref b1)])
  obtain ⟨T15, h15, L15, X15, N15, e15, W15, V15, st15⟩ := own_stJ X14 hx hZ e14 (j := (13 : Int32)) (vs' := [(.long (1 : Int64)), (.long (10 : Int64)), (.long (100 : Int64)), (.long (1000 : Int64)), (.long (10000 : Int64)), (.long (100000 : Int64)), (.long (1000000 : Int64)), (.long (10000000 : Int64)), (.long (100000000 : Int64)), (.long (1000000000 : Int64)), (.long (10000000000 : Int64)), (.long (100000000000 : Int64)), (.long (1000000000000 : Int64)), (.long (10000000000000 : Int64)), (.long (0 : Int64)), (.long (0 : Int64)), (.long (0 : Int64)), (.long (0 : Int64)), (.long (0 : Int64))]) V14  (by decide) 13 rfl (Nat.le_of_ble_eq_true rfl) rfl N14 ge_b1 (Ls := #[.val (.long q1), .second, .val (.int p2), .val (.int p3), .val (.int p4), .val (.int p5), .unset, .unset, .unset, .unset, .unset, .unset, .unset, .unset, .unset, .unset, .unset, .unset, .unset, .unset, .unset, .unset, .unset, .unset, .unset, .unset, .unset, .unset, .unset, .unset, .unset]) (rest := [(.ref b1)]) (hb hby at_93)
  have old15 := old14.wr W15 ge_b1
  refine own_go st15 ?_
  show own_Go p e below _ T15 (mkF m 94 #[.val (.long q1), .second, .val (.int p2), .val (.int p3), .val (.int p4), .val (.int p5), .unset, .unset, .unset, .unset, .unset, .unset, .unset, .unset, .unset, .unset, .unset, .unset, .unset, .unset, .unset, .unset, .unset, .unset, .unset, .unset, .unset, .unset, .unset, .unset, .unset] [(.ref b1)])
  refine own_go (fun t_ k_ => XS.dup X15.here hx rfl (hb hby at_94) rfl rfl k_) ?_
  show own_Go p e below _ T15 (mkF m 95 #[.val (.long q1), .second, .val (.int p2), .val (.int p3), .val (.int p4), .val (.int p5), .unset, .unset, .unset, .unset, .unset, .unset, .unset, .unset, .unset, .unset, .unset, .unset, .unset, .unset, .unset, .unset, .unset, .unset, .unset, .unset, .unset, .unset, .unset, .unset, .unset] [(.ref b1), (.ref b1)])
  refine own_go (fun t_ k_ => XS.bipush X15.here hx rfl (hb hby at_95) k_) ?_
  show own_Go p e below _ T15 (mkF m 97 #[.val (.long q1), .second, .val (.int p2), .val (.int p3), .val (.int p4), .val (.int p5), .unset, .unset, .unset, .unset, .unset, .unset, .unset, .unset, .unset, .unset, .unset, .unset, .unset, .unset, .unset, .unset, .unset, .unset, .unset, .unset, .unset, .unset, .unset, .unset, .unset] [(.int (14 : Int32)), (.ref b1), (.ref b1)])
  refine own_go (fun t_ k_ => X15.ldc2Long hx hown (mvT hZ (own_w hw 14 rfl)) (g := (mkF m 97 #[.val (.long q1), .second, .val (.int p2), .val (.int p3), .val (.int p4), .val (.int p5), .unset, .unset, .unset, .unset, .unset, .unset, .unset, .unset, .unset, .unset, .unset, .unset, .unset, .unset, .unset, .unset, .unset, .unset, .unset, .unset, .unset, .unset, .unset, .unset, .unset] [(.int (14 : Int32)), (.ref b1), (.ref b1)])) rfl (hb hby at_97) t_ k_) ?_
  show own_Go p e below _ T15 (mkF m 100 #[.val (.long q1), .second, .val (.int p2), .val (.int p3), .val (.int p4), .val (.int p5), .unset, .unset, .unset, .unset, .unset, .unset, .unset, .unset, .unset, .unset, .unset, .unset, .unset, .unset, .unset, .unset, .unset, .unset, .unset, .unset, .unset, .unset, .unset, .unset, .unset] [(.long (100000000000000 : Int64)), (.int (14 : Int32)), (.ref b1), (.ref b1)])
  obtain ⟨T16, h16, L16, X16, N16, e16, W16, V16, st16⟩ := own_stJ X15 hx hZ e15 (j := (14 : Int32)) (vs' := [(.long (1 : Int64)), (.long (10 : Int64)), (.long (100 : Int64)), (.long (1000 : Int64)), (.long (10000 : Int64)), (.long (100000 : Int64)), (.long (1000000 : Int64)), (.long (10000000 : Int64)), (.long (100000000 : Int64)), (.long (1000000000 : Int64)), (.long (10000000000 : Int64)), (.long (100000000000 : Int64)), (.long (1000000000000 : Int64)), (.long (10000000000000 : Int64)), (.long (100000000000000 : Int64)), (.long (0 : Int64)), (.long (0 : Int64)), (.long (0 : Int64)), (.long (0 : Int64))]) V15  (by decide) 14 rfl (Nat.le_of_ble_eq_true rfl) rfl N15 ge_b1 (Ls := #[.val (.long q1), .second, .val (.int p2), .val (.int p3), .val (.int p4), .val (.int p5), .unset, .unset, .unset, .unset, .unset, .unset, .unset, .unset, .unset, .unset, .unset, .unset, .unset, .unset, .unset, .unset, .unset, .unset, .unset, .unset, .unset, .unset, .unset, .unset, .unset]) (rest := [(.ref b1)]) (hb hby at_100)
  have old16 := old15.wr W16 ge_b1
  refine own_go st16 ?_
  show own_Go p e below _ T16 (mkF m 101 #[.val (.long q1), .second, .val (.int p2), .val (.int p3), .val (.int p4), .val (.int p5), .unset, .unset, .unset, .unset, .unset, .unset, .unset, .unset, .unset, .unset, .unset, .unset, .unset, .unset, .unset, .unset, .unset, .unset, .unset, .unset, .unset, .unset, .unset, .unset, .unset] [(.ref b1)])
  refine own_go (fun t_ k_ => XS.dup X16.here hx rfl (hb hby at_101) rfl rfl k_) ?_
  show own_Go p e below _ T16 (mkF m 102 #[.val (.long q1), .second, .val (.int p2), .val (.int p3), .val (.int p4), .val (.int p5), .unset, .unset, .unset, .unset, .unset, .unset, .unset, .unset, .unset, .unset, .unset, .unset, .unset, .unset, .unset, .unset, .unset, .unset, .unset, .unset, .unset, .unset, .unset, .unset, .unset] [(.ref b1), (.ref b1)])
  refine own_go (fun t_ k_ => XS.bipush X16.here hx rfl (hb hby at_102) k_) ?_
  show own_Go p e below _ T16 (mkF m 104 #[.val (.long q1), .second, .val (.int p2), .val (.int p3), .val (.int p4), .val (.int p5), .unset, .unset, .unset, .unset, .unset, .unset, .unset, .unset, .unset, .unset, .unset, .unset, .unset, .unset, .unset, .unset, .unset, .unset, .unset, .unset, .unset, .unset, .unset, .unset, .unset] [(.int (15 : Int32)), (.ref b1), (.ref b1)])
  refine own_go (fun t_ k_ => X16.ldc2Long hx hown (mvT hZ (own_w hw 15 rfl)) (g := (mkF m 104 #[.val (.long q1), .second, .val (.int p2), .val (.int p3), .val (.int p4), .val (.int p5), .unset, .unset, .unset, .unset, .unset, .unset, .unset, .unset, .unset, .unset, .unset, .unset, .unset, .unset, .unset, .unset, .unset, .unset, .unset, .unset, .unset, .unset, .unset, .unset, .unset] [(.int (15 : Int32)), (.ref b1), (.ref b1)])) rfl (hb hby at_104) t_ k_) ?_
  show own_Go p e below _ T16 (mkF m 107 #[.val (.long q1), .second, .val (.int p2), .val (.int p3), .val (.int p4), .val (.int p5), .unset, .unset, .unset, .unset, .unset, .unset, .unset, .unset, .unset, .unset, .unset, .unset, .unset, .unset, .unset, .unset, .unset, .unset, .unset, .unset, .unset, .unset, .unset, .unset, .unset] [(.long (1000000000000000 : Int64)), (.int (15 : Int32)), (.ref b1), (.ref b1)])
  obtain ⟨T17, h17, L17, X17, N17, e17, W17, V17, st17⟩ := own_stJ X16 hx hZ e16 (j := (15 : Int32)) (vs' := [(.long (1 : Int64)), (.long (10 : Int64)), (.long (100 : Int64)), (.long (1000 : Int64)), (.long (10000 : Int64)), (.long (100000 : Int64)), (.long (1000000 : Int64)), (.long (10000000 : Int64)), (.long (100000000 : Int64)), (.long (1000000000 : Int64)), (.long (10000000000 : Int64)), (.long (100000000000 : Int64)), (.long (1000000000000 : Int64)), (.long (10000000000000 : Int64)), (.long (100000000000000 : Int64)), (.long (1000000000000000 : Int64)), (.long (0 : Int64)), (.long (0 : Int64)), (.long (0 : Int64))]) V16  (by decide) 15 rfl (Nat.le_of_ble_eq_true rfl) rfl N16 ge_b1 (Ls := #[.val (.long q1), .second, .val (.int p2), .val (.int p3), .val (.int p4), .val (.int p5), .unset, .unset, .unset, .unset, .unset, .unset, .unset, .unset, .unset, .unset, .unset, .unset, .unset, .unset, .unset, .unset, .unset, .unset, .unset, .unset, .unset, .unset, .unset, .unset, .unset]) (rest := [(.ref b1)]) (hb hby at_107)
  have old17 := old16.wr W17 ge_b1
  refine own_go st17 ?_
  show own_Go p e below _ T17 (mkF m 108 #[.val (.long q1), .second, .val (.int p2), .val (.int p3), .val (.int p4), .val (.int p5), .unset, .unset, .unset, .unset, .unset, .unset, .unset, .unset, .unset, .unset, .unset, .unset, .unset, .unset, .unset, .unset, .unset, .unset, .unset, .unset, .unset, .unset, .unset, .unset, .unset] [(.ref b1)])
  refine own_go (fun t_ k_ => XS.dup X17.here hx rfl (hb hby at_108) rfl rfl k_) ?_
  show own_Go p e below _ T17 (mkF m 109 #[.val (.long q1), .second, .val (.int p2), .val (.int p3), .val (.int p4), .val (.int p5), .unset, .unset, .unset, .unset, .unset, .unset, .unset, .unset, .unset, .unset, .unset, .unset, .unset, .unset, .unset, .unset, .unset, .unset, .unset, .unset, .unset, .unset, .unset, .unset, .unset] [(.ref b1), (.ref b1)])
  refine own_go (fun t_ k_ => XS.bipush X17.here hx rfl (hb hby at_109) k_) ?_
  show own_Go p e below _ T17 (mkF m 111 #[.val (.long q1), .second, .val (.int p2), .val (.int p3), .val (.int p4), .val (.int p5), .unset, .unset, .unset, .unset, .unset, .unset, .unset, .unset, .unset, .unset, .unset, .unset, .unset, .unset, .unset, .unset, .unset, .unset, .unset, .unset, .unset, .unset, .unset, .unset, .unset] [(.int (16 : Int32)), (.ref b1), (.ref b1)])
  refine own_go (fun t_ k_ => X17.ldc2Long hx hown (mvT hZ (own_w hw 16 rfl)) (g := (mkF m 111 #[.val (.long q1), .second, .val (.int p2), .val (.int p3), .val (.int p4), .val (.int p5), .unset, .unset, .unset, .unset, .unset, .unset, .unset, .unset, .unset, .unset, .unset, .unset, .unset, .unset, .unset, .unset, .unset, .unset, .unset, .unset, .unset, .unset, .unset, .unset, .unset] [(.int (16 : Int32)), (.ref b1), (.ref b1)])) rfl (hb hby at_111) t_ k_) ?_
  show own_Go p e below _ T17 (mkF m 114 #[.val (.long q1), .second, .val (.int p2), .val (.int p3), .val (.int p4), .val (.int p5), .unset, .unset, .unset, .unset, .unset, .unset, .unset, .unset, .unset, .unset, .unset, .unset, .unset, .unset, .unset, .unset, .unset, .unset, .unset, .unset, .unset, .unset, .unset, .unset, .unset] [(.long (10000000000000000 : Int64)), (.int (16 : Int32)), (.ref b1), (.ref b1)])
  obtain ⟨T18, h18, L18, X18, N18, e18, W18, V18, st18⟩ := own_stJ X17 hx hZ e17 (j := (16 : Int32)) (vs' := [(.long (1 : Int64)), (.long (10 : Int64)), (.long (100 : Int64)), (.long (1000 : Int64)), (.long (10000 : Int64)), (.long (100000 : Int64)), (.long (1000000 : Int64)), (.long (10000000 : Int64)), (.long (100000000 : Int64)), (.long (1000000000 : Int64)), (.long (10000000000 : Int64)), (.long (100000000000 : Int64)), (.long (1000000000000 : Int64)), (.long (10000000000000 : Int64)), (.long (100000000000000 : Int64)), (.long (1000000000000000 : Int64)), (.long (10000000000000000 : Int64)), (.long (0 : Int64)), (.long (0 : Int64))]) V17  (by decide) 16 rfl (Nat.le_of_ble_eq_true rfl) rfl N17 ge_b1 (Ls := #[.val (.long q1), .second, .val (.int p2), .val (.int p3), .val (.int p4), .val (.int p5), .unset, .unset, .unset, .unset, .unset, .unset, .unset, .unset, .unset, .unset, .unset, .unset, .unset, .unset, .unset, .unset, .unset, .unset, .unset, .unset, .unset, .unset, .unset, .unset, .unset]) (rest := [(.ref b1)]) (hb hby at_114)
  have old18 := old17.wr W18 ge_b1
  refine own_go st18 ?_
  show own_Go p e below _ T18 (mkF m 115 #[.val (.long q1), .second, .val (.int p2), .val (.int p3), .val (.int p4), .val (.int p5), .unset, .unset, .unset, .unset, .unset, .unset, .unset, .unset, .unset, .unset, .unset, .unset, .unset, .unset, .unset, .unset, .unset, .unset, .unset, .unset, .unset, .unset, .unset, .unset, .unset] [(.ref b1)])
  refine own_go (fun t_ k_ => XS.dup X18.here hx rfl (hb hby at_115) rfl rfl k_) ?_
  show own_Go p e below _ T18 (mkF m 116 #[.val (.long q1), .second, .val (.int p2), .val (.int p3), .val (.int p4), .val (.int p5), .unset, .unset, .unset, .unset, .unset, .unset, .unset, .unset, .unset, .unset, .unset, .unset, .unset, .unset, .unset, .unset, .unset, .unset, .unset, .unset, .unset, .unset, .unset, .unset, .unset] [(.ref b1), (.ref b1)])
  refine own_go (fun t_ k_ => XS.bipush X18.here hx rfl (hb hby at_116) k_) ?_
  show own_Go p e below _ T18 (mkF m 118 #[.val (.long q1), .second, .val (.int p2), .val (.int p3), .val (.int p4), .val (.int p5), .unset, .unset, .unset, .unset, .unset, .unset, .unset, .unset, .unset, .unset, .unset, .unset, .unset, .unset, .unset, .unset, .unset, .unset, .unset, .unset, .unset, .unset, .unset, .unset, .unset] [(.int (17 : Int32)), (.ref b1), (.ref b1)])
  refine own_go (fun t_ k_ => X18.ldc2Long hx hown (mvT hZ (own_w hw 17 rfl)) (g := (mkF m 118 #[.val (.long q1), .second, .val (.int p2), .val (.int p3), .val (.int p4), .val (.int p5), .unset, .unset, .unset, .unset, .unset, .unset, .unset, .unset, .unset, .unset, .unset, .unset, .unset, .unset, .unset, .unset, .unset, .unset, .unset, .unset, .unset, .unset, .unset, .unset, .unset] [(.int (17 : Int32)), (.ref b1), (.ref b1)])) rfl (hb hby at_118) t_ k_) ?_
  show own_Go p e below _ T18 (mkF m 121 #[.val (.long q1), .second, .val (.int p2), .val (.int p3), .val (.int p4), .val (.int p5), .unset, .unset, .unset, .unset, .unset, .unset, .unset, .unset, .unset, .unset, .unset, .unset, .unset, .unset, .unset, .unset, .unset, .unset, .unset, .unset, .unset, .unset, .unset, .unset, .unset] [(.long (100000000000000000 : Int64)), (.int (17 : Int32)), (.ref b1), (.ref b1)])
  obtain ⟨T19, h19, L19, X19, N19, e19, W19, V19, st19⟩ := own_stJ X18 hx hZ e18 (j := (17 : Int32)) (vs' := [(.long (1 : Int64)), (.long (10 : Int64)), (.long (100 : Int64)), (.long (1000 : Int64)), (.long (10000 : Int64)), (.long (100000 : Int64)), (.long (1000000 : Int64)), (.long (10000000 : Int64)), (.long (100000000 : Int64)), (.long (1000000000 : Int64)), (.long (10000000000 : Int64)), (.long (100000000000 : Int64)), (.long (1000000000000 : Int64)), (.long (10000000000000 : Int64)), (.long (100000000000000 : Int64)), (.long (1000000000000000 : Int64)), (.long (10000000000000000 : Int64)), (.long (100000000000000000 : Int64)), (.long (0 : Int64))]) V18  (by decide) 17 rfl (Nat.le_of_ble_eq_true rfl) rfl N18 ge_b1 (Ls := #[.val (.long q1), .second, .val (.int p2), .val (.int p3), .val (.int p4), .val (.int p5), .unset, .unset, .unset, .unset, .unset, .unset, .unset, .unset, .unset, .unset, .unset, .unset, .unset, .unset, .unset, .unset, .unset, .unset, .unset, .unset, .unset, .unset, .unset, .unset, .unset]) (rest := [(.ref b1)]) (hb hby at_121)
  have old19 := old18.wr W19 ge_b1
  refine own_go st19 ?_
  show own_Go p e below _ T19 (mkF m 122 #[.val (.long q1), .second, .val (.int p2), .val (.int p3), .val (.int p4), .val (.int p5), .unset, .unset, .unset, .unset, .unset, .unset, .unset, .unset, .unset, .unset, .unset, .unset, .unset, .unset, .unset, .unset, .unset, .unset, .unset, .unset, .unset, .unset, .unset, .unset, .unset] [(.ref b1)])
  refine own_go (fun t_ k_ => XS.dup X19.here hx rfl (hb hby at_122) rfl rfl k_) ?_
  show own_Go p e below _ T19 (mkF m 123 #[.val (.long q1), .second, .val (.int p2), .val (.int p3), .val (.int p4), .val (.int p5), .unset, .unset, .unset, .unset, .unset, .unset, .unset, .unset, .unset, .unset, .unset, .unset, .unset, .unset, .unset, .unset, .unset, .unset, .unset, .unset, .unset, .unset, .unset, .unset, .unset] [(.ref b1), (.ref b1)])
  refine own_go (fun t_ k_ => XS.bipush X19.here hx rfl (hb hby at_123) k_) ?_
  show own_Go p e below _ T19 (mkF m 125 #[.val (.long q1), .second, .val (.int p2), .val (.int p3), .val (.int p4), .val (.int p5), .unset, .unset, .unset, .unset, .unset, .unset, .unset, .unset, .unset, .unset, .unset, .unset, .unset, .unset, .unset, .unset, .unset, .unset, .unset, .unset, .unset, .unset, .unset, .unset, .unset] [(.int (18 : Int32)), (.ref b1), (.ref b1)])
  refine own_go (fun t_ k_ => X19.ldc2Long hx hown (mvT hZ (own_w hw 18 rfl)) (g := (mkF m 125 #[.val (.long q1), .second, .val (.int p2), .val (.int p3), .val (.int p4), .val (.int p5), .unset, .unset, .unset, .unset, .unset, .unset, .unset, .unset, .unset, .unset, .unset, .unset, .unset, .unset, .unset, .unset, .unset, .unset, .unset, .unset, .unset, .unset, .unset, .unset, .unset] [(.int (18 : Int32)), (.ref b1), (.ref b1)])) rfl (hb hby at_125) t_ k_) ?_
  show own_Go p e below _ T19 (mkF m 128 #[.val (.long q1), .second, .val (.int p2), .val (.int p3), .val (.int p4), .val (.int p5), .unset, .unset, .unset, .unset, .unset, .unset, .unset, .unset, .unset, .unset, .unset, .unset, .unset, .unset, .unset, .unset, .unset, .unset, .unset, .unset, .unset, .unset, .unset, .unset, .unset] [(.long (1000000000000000000 : Int64)), (.int (18 : Int32)), (.ref b1), (.ref b1)])
  obtain ⟨T20, h20, L20, X20, N20, e20, W20, V20, st20⟩ := own_stJ X19 hx hZ e19 (j := (18 : Int32)) (vs' := [(.long (1 : Int64)), (.long (10 : Int64)), (.long (100 : Int64)), (.long (1000 : Int64)), (.long (10000 : Int64)), (.long (100000 : Int64)), (.long (1000000 : Int64)), (.long (10000000 : Int64)), (.long (100000000 : Int64)), (.long (1000000000 : Int64)), (.long (10000000000 : Int64)), (.long (100000000000 : Int64)), (.long (1000000000000 : Int64)), (.long (10000000000000 : Int64)), (.long (100000000000000 : Int64)), (.long (1000000000000000 : Int64)), (.long (10000000000000000 : Int64)), (.long (100000000000000000 : Int64)), (.long (1000000000000000000 : Int64))]) V19  (by decide) 18 rfl (Nat.le_of_ble_eq_true rfl) rfl N19 ge_b1 (Ls := #[.val (.long q1), .second, .val (.int p2), .val (.int p3), .val (.int p4), .val (.int p5), .unset, .unset, .unset, .unset, .unset, .unset, .unset, .unset, .unset, .unset, .unset, .unset, .unset, .unset, .unset, .unset, .unset, .unset, .unset, .unset, .unset, .unset, .unset, .unset, .unset]) (rest := [(.ref b1)]) (hb hby at_128)
  have old20 := old19.wr W20 ge_b1
  refine own_go st20 ?_
  show own_Go p e below _ T20 (mkF m 129 #[.val (.long q1), .second, .val (.int p2), .val (.int p3), .val (.int p4), .val (.int p5), .unset, .unset, .unset, .unset, .unset, .unset, .unset, .unset, .unset, .unset, .unset, .unset, .unset, .unset, .unset, .unset, .unset, .unset, .unset, .unset, .unset, .unset, .unset, .unset, .unset] [(.ref b1)])
  refine own_go (fun t_ k_ => XS.astore X20.here hx rfl (hb hby at_129) rfl rfl (l' := #[.val (.long q1), .second, .val (.int p2), .val (.int p3), .val (.int p4), .val (.int p5), .val (.ref b1), .unset, .unset, .unset, .unset, .unset, .unset, .unset, .unset, .unset, .unset, .unset, .unset, .unset, .unset, .unset, .unset, .unset, .unset, .unset, .unset, .unset, .unset, .unset, .unset]) rfl k_) ?_
  show own_Go p e below _ T20 (mkF m 131 #[.val (.long q1), .second, .val (.int p2), .val (.int p3), .val (.int p4), .val (.int p5), .val (.ref b1), .unset, .unset, .unset, .unset, .unset, .unset, .unset, .unset, .unset, .unset, .unset, .unset, .unset, .unset, .unset, .unset, .unset, .unset, .unset, .unset, .unset, .unset, .unset, .unset] [])
  refine own_go (fun t_ k_ => XS.lloadN X20.here hx rfl (hb hby at_131) rfl k_) ?_
  show own_Go p e below _ T20 (mkF m 132 #[.val (.long q1), .second, .val (.int p2), .val (.int p3), .val (.int p4), .val (.int p5), .val (.ref b1), .unset, .unset, .unset, .unset, .unset, .unset, .unset, .unset, .unset, .unset, .unset, .unset, .unset, .unset, .unset, .unset, .unset, .unset, .unset, .unset, .unset, .unset, .unset, .unset] [(.long q1)])
  refine own_go (fun t_ k_ => X20.ldc2Long hx hown (mvT hZ (own_w hw 19 rfl)) (g := (mkF m 132 #[.val (.long q1), .second, .val (.int p2), .val (.int p3), .val (.int p4), .val (.int p5), .val (.ref b1), .unset, .unset, .unset, .unset, .unset, .unset, .unset, .unset, .unset, .unset, .unset, .unset, .unset, .unset, .unset, .unset, .unset, .unset, .unset, .unset, .unset, .unset, .unset, .unset] [(.long q1)])) rfl (hb hby at_132) t_ k_) ?_
  show own_Go p e below _ T20 (mkF m 135 #[.val (.long q1), .second, .val (.int p2), .val (.int p3), .val (.int p4), .val (.int p5), .val (.ref b1), .unset, .unset, .unset, .unset, .unset, .unset, .unset, .unset, .unset, .unset, .unset, .unset, .unset, .unset, .unset, .unset, .unset, .unset, .unset, .unset, .unset, .unset, .unset, .unset] [(.long (9223372036854775807 : Int64)), (.long q1)])
  refine own_go (fun t_ k_ => XS.land X20.here hx rfl (hb hby at_135) rfl k_) ?_
  show own_Go p e below _ T20 (mkF m 136 #[.val (.long q1), .second, .val (.int p2), .val (.int p3), .val (.int p4), .val (.int p5), .val (.ref b1), .unset, .unset, .unset, .unset, .unset, .unset, .unset, .unset, .unset, .unset, .unset, .unset, .unset, .unset, .unset, .unset, .unset, .unset, .unset, .unset, .unset, .unset, .unset, .unset] [(.long (q1 &&& (9223372036854775807 : Int64)))])
  have hm := own_mask64 q1
  generalize (q1 &&& (9223372036854775807 : Int64)) = mm at hm ⊢
  show own_Go p e below _ T20 (mkF m 136 #[.val (.long q1), .second, .val (.int p2), .val (.int p3), .val (.int p4), .val (.int p5), .val (.ref b1), .unset, .unset, .unset, .unset, .unset, .unset, .unset, .unset, .unset, .unset, .unset, .unset, .unset, .unset, .unset, .unset, .unset, .unset, .unset, .unset, .unset, .unset, .unset, .unset] [(.long mm)])
  refine own_go (fun t_ k_ => XS.lstore X20.here hx rfl (hb hby at_136) rfl (l' := #[.val (.long q1), .second, .val (.int p2), .val (.int p3), .val (.int p4), .val (.int p5), .val (.ref b1), .val (.long mm), .second, .unset, .unset, .unset, .unset, .unset, .unset, .unset, .unset, .unset, .unset, .unset, .unset, .unset, .unset, .unset, .unset, .unset, .unset, .unset, .unset, .unset, .unset]) rfl k_) ?_
  show own_Go p e below _ T20 (mkF m 138 #[.val (.long q1), .second, .val (.int p2), .val (.int p3), .val (.int p4), .val (.int p5), .val (.ref b1), .val (.long mm), .second, .unset, .unset, .unset, .unset, .unset, .unset, .unset, .unset, .unset, .unset, .unset, .unset, .unset, .unset, .unset, .unset, .unset, .unset, .unset, .unset, .unset, .unset] [])
  refine own_go (fun t_ k_ => XS.bipush X20.here hx rfl (hb hby at_138) k_) ?_
  show own_Go p e below _ T20 (mkF m 140 #[.val (.long q1), .second, .val (.int p2), .val (.int p3), .val (.int p4), .val (.int p5), .val (.ref b1), .val (.long mm), .second, .unset, .unset, .unset, .unset, .unset, .unset, .unset, .unset, .unset, .unset, .unset, .unset, .unset, .unset, .unset, .unset, .unset, .unset, .unset, .unset, .unset, .unset] [(.int (21 : Int32))])
  obtain ⟨T21, h21, b21, k21, X21, e21, E21, g21, V21, st21⟩ := own_newP X20 hx hZ rfl (own_w hw 20 rfl) e20 (Ls := #[.val (.long q1), .second, .val (.int p2), .val (.int p3), .val (.int p4), .val (.int p5), .val (.ref b1), .val (.long mm), .second, .unset, .unset, .unset, .unset, .unset, .unset, .unset, .unset, .unset, .unset, .unset, .unset, .unset, .unset, .unset, .unset, .unset, .unset, .unset, .unset, .unset, .unset]) (rest := []) (hb hby at_140) (n := (21 : Int32)) (by decide) 21 (by decide) (by decide) (by decide) (by decide)
  have ge_b21 : n0 ≤ b21 := g21 ▸ own_oldge old20
  have old21 := old20.ext E21
  have V21 : Arv Z h21 b21 k21 .byte (21 : Int32) [(.int (0 : Int32)), (.int (0 : Int32)), (.int (0 : Int32)), (.int (0 : Int32)), (.int (0 : Int32)), (.int (0 : Int32)), (.int (0 : Int32)), (.int (0 : Int32)), (.int (0 : Int32)), (.int (0 : Int32)), (.int (0 : Int32)), (.int (0 : Int32)), (.int (0 : Int32)), (.int (0 : Int32)), (.int (0 : Int32)), (.int (0 : Int32)), (.int (0 : Int32)), (.int (0 : Int32)), (.int (0 : Int32)), (.int (0 : Int32)), (.int (0 : Int32))] (.int (0 : Int32)) := V21
  refine own_go st21 ?_
  show own_Go p e below _ T21 (mkF m 142 #[.val (.long q1), .second, .val (.int p2), .val (.int p3), .val (.int p4), .val (.int p5), .val (.ref b1), .val (.long mm), .second, .unset, .unset, .unset, .unset, .unset, .unset, .unset, .unset, .unset, .unset, .unset, .unset, .unset, .unset, .unset, .unset, .unset, .unset, .unset, .unset, .unset, .unset] [(.ref b21)])
  have hbt : b21 ≠ b1 := by rw [g21]; exact Nat.ne_of_gt V20.lt
  refine own_go (fun t_ k_ => XS.astore X21.here hx rfl (hb hby at_142) rfl rfl (l' := #[.val (.long q1), .second, .val (.int p2), .val (.int p3), .val (.int p4), .val (.int p5), .val (.ref b1), .val (.long mm), .second, .val (.ref b21), .unset, .unset, .unset, .unset, .unset, .unset, .unset, .unset, .unset, .unset, .unset, .unset, .unset, .unset, .unset, .unset, .unset, .unset, .unset, .unset, .unset]) rfl k_) ?_
  show own_Go p e below _ T21 (mkF m 144 #[.val (.long q1), .second, .val (.int p2), .val (.int p3), .val (.int p4), .val (.int p5), .val (.ref b1), .val (.long mm), .second, .val (.ref b21), .unset, .unset, .unset, .unset, .unset, .unset, .unset, .unset, .unset, .unset, .unset, .unset, .unset, .unset, .unset, .unset, .unset, .unset, .unset, .unset, .unset] [])
  refine own_go (fun t_ k_ => XS.aload X21.here hx rfl (hb hby at_144) rfl rfl k_) ?_
  show own_Go p e below _ T21 (mkF m 146 #[.val (.long q1), .second, .val (.int p2), .val (.int p3), .val (.int p4), .val (.int p5), .val (.ref b1), .val (.long mm), .second, .val (.ref b21), .unset, .unset, .unset, .unset, .unset, .unset, .unset, .unset, .unset, .unset, .unset, .unset, .unset, .unset, .unset, .unset, .unset, .unset, .unset, .unset, .unset] [(.ref b21)])
  refine own_go (fun t_ k_ => XS.lload X21.here hx rfl (hb hby at_146) rfl k_) ?_
  show own_Go p e below _ T21 (mkF m 148 #[.val (.long q1), .second, .val (.int p2), .val (.int p3), .val (.int p4), .val (.int p5), .val (.ref b1), .val (.long mm), .second, .val (.ref b21), .unset, .unset, .unset, .unset, .unset, .unset, .unset, .unset, .unset, .unset, .unset, .unset, .unset, .unset, .unset, .unset, .unset, .unset, .unset, .unset, .unset] [(.long mm), (.ref b21)])
  refine own_go (fun t_ k_ => XS.aload X21.here hx rfl (hb hby at_148) rfl rfl k_) ?_
  show own_Go p e below _ T21 (mkF m 150 #[.val (.long q1), .second, .val (.int p2), .val (.int p3), .val (.int p4), .val (.int p5), .val (.ref b1), .val (.long mm), .second, .val (.ref b21), .unset, .unset, .unset, .unset, .unset, .unset, .unset, .unset, .unset, .unset, .unset, .unset, .unset, .unset, .unset, .unset, .unset, .unset, .unset, .unset, .unset] [(.ref b1), (.long mm), (.ref b21)])
  obtain ⟨_, T22, L22, X22, ⟨rfl, old22, Vb22, Vt22, N22⟩, st22⟩ := own_callS X21 hx hZ (y := (⟨"com/example/gridtally/gridtally/core/DecimalsIntegerPinLaw", "put", "([BJ[J)V"⟩ : MethodName)) (argsL := [(.ref b21), (.long mm), (.ref b1)]) (rest := []) (Ls := #[.val (.long q1), .second, .val (.int p2), .val (.int p3), .val (.int p4), .val (.int p5), .val (.ref b1), .val (.long mm), .second, .val (.ref b21), .unset, .unset, .unset, .unset, .unset, .unset, .unset, .unset, .unset, .unset, .unset, .unset, .unset, .unset, .unset, .unset, .unset, .unset, .unset, .unset, .unset]) hown (own_w hw 21 rfl) (own_w hw 22 rfl) (own_w hw 23 rfl) (own_w hw 24 rfl) (by decide) e21 (rmPut l Z a0 hw [] b21 b1 k21 mm h21 n0 (own_oldge old21) old21 V21 (own_LA_of (V20.ext E21) rfl own_tenList) hbt ge_b21) 0 (by decide) (by decide) (by decide) (by decide) (by rw [hml]; rfl) (lenOf pd_10 rfl) rfl (Nat.le_of_eq rfl) (hb hby at_150)
  have M22 := Fr.app N20 N22
  refine own_go st22 ?_
  show own_Go p e below _ T22 (mkF m 153 #[.val (.long q1), .second, .val (.int p2), .val (.int p3), .val (.int p4), .val (.int p5), .val (.ref b1), .val (.long mm), .second, .val (.ref b21), .unset, .unset, .unset, .unset, .unset, .unset, .unset, .unset, .unset, .unset, .unset, .unset, .unset, .unset, .unset, .unset, .unset, .unset, .unset, .unset, .unset] [])
  refine own_go (fun t_ k_ => XS.iloadN X22.here hx rfl (hb hby at_153) rfl k_) ?_
  show own_Go p e below _ T22 (mkF m 154 #[.val (.long q1), .second, .val (.int p2), .val (.int p3), .val (.int p4), .val (.int p5), .val (.ref b1), .val (.long mm), .second, .val (.ref b21), .unset, .unset, .unset, .unset, .unset, .unset, .unset, .unset, .unset, .unset, .unset, .unset, .unset, .unset, .unset, .unset, .unset, .unset, .unset, .unset, .unset] [(.int p2)])
  refine own_go (fun t_ k_ => XS.bipush X22.here hx rfl (hb hby at_154) k_) ?_
  show own_Go p e below _ T22 (mkF m 156 #[.val (.long q1), .second, .val (.int p2), .val (.int p3), .val (.int p4), .val (.int p5), .val (.ref b1), .val (.long mm), .second, .val (.ref b21), .unset, .unset, .unset, .unset, .unset, .unset, .unset, .unset, .unset, .unset, .unset, .unset, .unset, .unset, .unset, .unset, .unset, .unset, .unset, .unset, .unset] [(.int (31 : Int32)), (.int p2)])
  refine own_go (fun t_ k_ => XS.iand X22.here hx rfl (hb hby at_156) rfl k_) ?_
  show own_Go p e below _ T22 (mkF m 157 #[.val (.long q1), .second, .val (.int p2), .val (.int p3), .val (.int p4), .val (.int p5), .val (.ref b1), .val (.long mm), .second, .val (.ref b21), .unset, .unset, .unset, .unset, .unset, .unset, .unset, .unset, .unset, .unset, .unset, .unset, .unset, .unset, .unset, .unset, .unset, .unset, .unset, .unset, .unset] [(.int (p2 &&& (31 : Int32)))])
  refine own_go (fun t_ k_ => XS.bipush X22.here hx rfl (hb hby at_157) k_) ?_
  show own_Go p e below _ T22 (mkF m 159 #[.val (.long q1), .second, .val (.int p2), .val (.int p3), .val (.int p4), .val (.int p5), .val (.ref b1), .val (.long mm), .second, .val (.ref b21), .unset, .unset, .unset, .unset, .unset, .unset, .unset, .unset, .unset, .unset, .unset, .unset, .unset, .unset, .unset, .unset, .unset, .unset, .unset, .unset, .unset] [(.int (20 : Int32)), (.int (p2 &&& (31 : Int32)))])
  refine own_go (fun t_ k_ => iremM X22 hx rfl (hb hby at_159) rfl (by decide) k_) ?_
  show own_Go p e below _ T22 (mkF m 160 #[.val (.long q1), .second, .val (.int p2), .val (.int p3), .val (.int p4), .val (.int p5), .val (.ref b1), .val (.long mm), .second, .val (.ref b21), .unset, .unset, .unset, .unset, .unset, .unset, .unset, .unset, .unset, .unset, .unset, .unset, .unset, .unset, .unset, .unset, .unset, .unset, .unset, .unset, .unset] [(.int ((p2 &&& (31 : Int32)) % (20 : Int32)))])
  obtain ⟨n, hn, en⟩ := own_rem20 p2
  rw [en]
  show own_Go p e below _ T22 (mkF m 160 #[.val (.long q1), .second, .val (.int p2), .val (.int p3), .val (.int p4), .val (.int p5), .val (.ref b1), .val (.long mm), .second, .val (.ref b21), .unset, .unset, .unset, .unset, .unset, .unset, .unset, .unset, .unset, .unset, .unset, .unset, .unset, .unset, .unset, .unset, .unset, .unset, .unset, .unset, .unset] [(.int (Int32.ofNat n))])
  refine own_go (fun t_ k_ => XS.istore X22.here hx rfl (hb hby at_160) rfl (l' := #[.val (.long q1), .second, .val (.int p2), .val (.int p3), .val (.int p4), .val (.int p5), .val (.ref b1), .val (.long mm), .second, .val (.ref b21), .val (.int (Int32.ofNat n)), .unset, .unset, .unset, .unset, .unset, .unset, .unset, .unset, .unset, .unset, .unset, .unset, .unset, .unset, .unset, .unset, .unset, .unset, .unset, .unset]) rfl k_) ?_
  show own_Go p e below _ T22 (mkF m 162 #[.val (.long q1), .second, .val (.int p2), .val (.int p3), .val (.int p4), .val (.int p5), .val (.ref b1), .val (.long mm), .second, .val (.ref b21), .val (.int (Int32.ofNat n)), .unset, .unset, .unset, .unset, .unset, .unset, .unset, .unset, .unset, .unset, .unset, .unset, .unset, .unset, .unset, .unset, .unset, .unset, .unset, .unset] [])
  refine own_go (fun t_ k_ => XS.bipush X22.here hx rfl (hb hby at_162) k_) ?_
  show own_Go p e below _ T22 (mkF m 164 #[.val (.long q1), .second, .val (.int p2), .val (.int p3), .val (.int p4), .val (.int p5), .val (.ref b1), .val (.long mm), .second, .val (.ref b21), .val (.int (Int32.ofNat n)), .unset, .unset, .unset, .unset, .unset, .unset, .unset, .unset, .unset, .unset, .unset, .unset, .unset, .unset, .unset, .unset, .unset, .unset, .unset, .unset] [(.int (20 : Int32))])
  refine own_go (fun t_ k_ => XS.iload X22.here hx rfl (hb hby at_164) rfl k_) ?_
  show own_Go p e below _ T22 (mkF m 166 #[.val (.long q1), .second, .val (.int p2), .val (.int p3), .val (.int p4), .val (.int p5), .val (.ref b1), .val (.long mm), .second, .val (.ref b21), .val (.int (Int32.ofNat n)), .unset, .unset, .unset, .unset, .unset, .unset, .unset, .unset, .unset, .unset, .unset, .unset, .unset, .unset, .unset, .unset, .unset, .unset, .unset, .unset] [(.int (Int32.ofNat n)), (.int (20 : Int32))])
  refine own_go (fun t_ k_ => XS.isub X22.here hx rfl (hb hby at_166) rfl k_) ?_
  show own_Go p e below _ T22 (mkF m 167 #[.val (.long q1), .second, .val (.int p2), .val (.int p3), .val (.int p4), .val (.int p5), .val (.ref b1), .val (.long mm), .second, .val (.ref b21), .val (.int (Int32.ofNat n)), .unset, .unset, .unset, .unset, .unset, .unset, .unset, .unset, .unset, .unset, .unset, .unset, .unset, .unset, .unset, .unset, .unset, .unset, .unset, .unset] [(.int ((20 : Int32) - (Int32.ofNat n)))])
  rw [show ((20 : Int32) - (Int32.ofNat n)) = (Int32.ofNat (20 - n)) from own_oSub (a := 20) (b := n) (by omega) (by omega)]
  show own_Go p e below _ T22 (mkF m 167 #[.val (.long q1), .second, .val (.int p2), .val (.int p3), .val (.int p4), .val (.int p5), .val (.ref b1), .val (.long mm), .second, .val (.ref b21), .val (.int (Int32.ofNat n)), .unset, .unset, .unset, .unset, .unset, .unset, .unset, .unset, .unset, .unset, .unset, .unset, .unset, .unset, .unset, .unset, .unset, .unset, .unset, .unset] [(.int (Int32.ofNat (20 - n)))])
  refine own_go (fun t_ k_ => XS.istore X22.here hx rfl (hb hby at_167) rfl (l' := #[.val (.long q1), .second, .val (.int p2), .val (.int p3), .val (.int p4), .val (.int p5), .val (.ref b1), .val (.long mm), .second, .val (.ref b21), .val (.int (Int32.ofNat n)), .val (.int (Int32.ofNat (20 - n))), .unset, .unset, .unset, .unset, .unset, .unset, .unset, .unset, .unset, .unset, .unset, .unset, .unset, .unset, .unset, .unset, .unset, .unset, .unset]) rfl k_) ?_
  show own_Go p e below _ T22 (mkF m 169 #[.val (.long q1), .second, .val (.int p2), .val (.int p3), .val (.int p4), .val (.int p5), .val (.ref b1), .val (.long mm), .second, .val (.ref b21), .val (.int (Int32.ofNat n)), .val (.int (Int32.ofNat (20 - n))), .unset, .unset, .unset, .unset, .unset, .unset, .unset, .unset, .unset, .unset, .unset, .unset, .unset, .unset, .unset, .unset, .unset, .unset, .unset] [])
  refine own_go (fun t_ k_ => XS.iloadN X22.here hx rfl (hb hby at_169) rfl k_) ?_
  show own_Go p e below _ T22 (mkF m 170 #[.val (.long q1), .second, .val (.int p2), .val (.int p3), .val (.int p4), .val (.int p5), .val (.ref b1), .val (.long mm), .second, .val (.ref b21), .val (.int (Int32.ofNat n)), .val (.int (Int32.ofNat (20 - n))), .unset, .unset, .unset, .unset, .unset, .unset, .unset, .unset, .unset, .unset, .unset, .unset, .unset, .unset, .unset, .unset, .unset, .unset, .unset] [(.int p2)])
  refine own_go (fun t_ k_ => XS.iconst X22.here hx rfl (hb hby at_170) k_) ?_
  show own_Go p e below _ T22 (mkF m 171 #[.val (.long q1), .second, .val (.int p2), .val (.int p3), .val (.int p4), .val (.int p5), .val (.ref b1), .val (.long mm), .second, .val (.ref b21), .val (.int (Int32.ofNat n)), .val (.int (Int32.ofNat (20 - n))), .unset, .unset, .unset, .unset, .unset, .unset, .unset, .unset, .unset, .unset, .unset, .unset, .unset, .unset, .unset, .unset, .unset, .unset, .unset] [(.int (5 : Int32)), (.int p2)])
  refine own_go (fun t_ k_ => XS.iushr X22.here hx rfl (hb hby at_171) rfl k_) ?_
  show own_Go p e below _ T22 (mkF m 172 #[.val (.long q1), .second, .val (.int p2), .val (.int p3), .val (.int p4), .val (.int p5), .val (.ref b1), .val (.long mm), .second, .val (.ref b21), .val (.int (Int32.ofNat n)), .val (.int (Int32.ofNat (20 - n))), .unset, .unset, .unset, .unset, .unset, .unset, .unset, .unset, .unset, .unset, .unset, .unset, .unset, .unset, .unset, .unset, .unset, .unset, .unset] [(.int ((p2.toUInt32 >>> ((5 : Int32) &&& 31).toUInt32).toInt32))])
  refine own_go (fun t_ k_ => XS.iconst X22.here hx rfl (hb hby at_172) k_) ?_
  show own_Go p e below _ T22 (mkF m 173 #[.val (.long q1), .second, .val (.int p2), .val (.int p3), .val (.int p4), .val (.int p5), .val (.ref b1), .val (.long mm), .second, .val (.ref b21), .val (.int (Int32.ofNat n)), .val (.int (Int32.ofNat (20 - n))), .unset, .unset, .unset, .unset, .unset, .unset, .unset, .unset, .unset, .unset, .unset, .unset, .unset, .unset, .unset, .unset, .unset, .unset, .unset] [(.int (3 : Int32)), (.int ((p2.toUInt32 >>> ((5 : Int32) &&& 31).toUInt32).toInt32))])
  refine own_go (fun t_ k_ => XS.iand X22.here hx rfl (hb hby at_173) rfl k_) ?_
  show own_Go p e below _ T22 (mkF m 174 #[.val (.long q1), .second, .val (.int p2), .val (.int p3), .val (.int p4), .val (.int p5), .val (.ref b1), .val (.long mm), .second, .val (.ref b21), .val (.int (Int32.ofNat n)), .val (.int (Int32.ofNat (20 - n))), .unset, .unset, .unset, .unset, .unset, .unset, .unset, .unset, .unset, .unset, .unset, .unset, .unset, .unset, .unset, .unset, .unset, .unset, .unset] [(.int (((p2.toUInt32 >>> ((5 : Int32) &&& 31).toUInt32).toInt32) &&& (3 : Int32)))])
  generalize (((p2.toUInt32 >>> ((5 : Int32) &&& 31).toUInt32).toInt32) &&& (3 : Int32)) = sm
  show own_Go p e below _ T22 (mkF m 174 #[.val (.long q1), .second, .val (.int p2), .val (.int p3), .val (.int p4), .val (.int p5), .val (.ref b1), .val (.long mm), .second, .val (.ref b21), .val (.int (Int32.ofNat n)), .val (.int (Int32.ofNat (20 - n))), .unset, .unset, .unset, .unset, .unset, .unset, .unset, .unset, .unset, .unset, .unset, .unset, .unset, .unset, .unset, .unset, .unset, .unset, .unset] [(.int sm)])
  refine own_go (fun t_ k_ => XS.istore X22.here hx rfl (hb hby at_174) rfl (l' := #[.val (.long q1), .second, .val (.int p2), .val (.int p3), .val (.int p4), .val (.int p5), .val (.ref b1), .val (.long mm), .second, .val (.ref b21), .val (.int (Int32.ofNat n)), .val (.int (Int32.ofNat (20 - n))), .val (.int sm), .unset, .unset, .unset, .unset, .unset, .unset, .unset, .unset, .unset, .unset, .unset, .unset, .unset, .unset, .unset, .unset, .unset, .unset]) rfl k_) ?_
  show own_Go p e below _ T22 (mkF m 176 #[.val (.long q1), .second, .val (.int p2), .val (.int p3), .val (.int p4), .val (.int p5), .val (.ref b1), .val (.long mm), .second, .val (.ref b21), .val (.int (Int32.ofNat n)), .val (.int (Int32.ofNat (20 - n))), .val (.int sm), .unset, .unset, .unset, .unset, .unset, .unset, .unset, .unset, .unset, .unset, .unset, .unset, .unset, .unset, .unset, .unset, .unset, .unset] [])
  refine own_go (fun t_ k_ => XS.iload X22.here hx rfl (hb hby at_176) rfl k_) ?_
  show own_Go p e below _ T22 (mkF m 178 #[.val (.long q1), .second, .val (.int p2), .val (.int p3), .val (.int p4), .val (.int p5), .val (.ref b1), .val (.long mm), .second, .val (.ref b21), .val (.int (Int32.ofNat n)), .val (.int (Int32.ofNat (20 - n))), .val (.int sm), .unset, .unset, .unset, .unset, .unset, .unset, .unset, .unset, .unset, .unset, .unset, .unset, .unset, .unset, .unset, .unset, .unset, .unset] [(.int sm)])
  have jn178 : ∀ (so : Int32), ((sm = 0) → so = (0 : Int32)) → (¬ (sm = 0) → so = (1 : Int32)) → own_Go p e below (own_K (fun v h L => v = some (.int 1) ∧ Fr n0 L) s room_1.cells room_1.slots) T22 (mkF m 186 #[.val (.long q1), .second, .val (.int p2), .val (.int p3), .val (.int p4), .val (.int p5), .val (.ref b1), .val (.long mm), .second, .val (.ref b21), .val (.int (Int32.ofNat n)), .val (.int (Int32.ofNat (20 - n))), .val (.int sm), .unset, .unset, .unset, .unset, .unset, .unset, .unset, .unset, .unset, .unset, .unset, .unset, .unset, .unset, .unset, .unset, .unset, .unset] [(.int so)]) := by
    intro so so_t so_f
    refine own_go (fun t_ k_ => XS.istore X22.here hx rfl (hb hby at_186) rfl (l' := #[.val (.long q1), .second, .val (.int p2), .val (.int p3), .val (.int p4), .val (.int p5), .val (.ref b1), .val (.long mm), .second, .val (.ref b21), .val (.int (Int32.ofNat n)), .val (.int (Int32.ofNat (20 - n))), .val (.int sm), .val (.int so), .unset, .unset, .unset, .unset, .unset, .unset, .unset, .unset, .unset, .unset, .unset, .unset, .unset, .unset, .unset, .unset, .unset]) rfl k_) ?_
    show own_Go p e below _ T22 (mkF m 188 #[.val (.long q1), .second, .val (.int p2), .val (.int p3), .val (.int p4), .val (.int p5), .val (.ref b1), .val (.long mm), .second, .val (.ref b21), .val (.int (Int32.ofNat n)), .val (.int (Int32.ofNat (20 - n))), .val (.int sm), .val (.int so), .unset, .unset, .unset, .unset, .unset, .unset, .unset, .unset, .unset, .unset, .unset, .unset, .unset, .unset, .unset, .unset, .unset] [])
    refine own_go (fun t_ k_ => XS.iloadN X22.here hx rfl (hb hby at_188) rfl k_) ?_
    show own_Go p e below _ T22 (mkF m 189 #[.val (.long q1), .second, .val (.int p2), .val (.int p3), .val (.int p4), .val (.int p5), .val (.ref b1), .val (.long mm), .second, .val (.ref b21), .val (.int (Int32.ofNat n)), .val (.int (Int32.ofNat (20 - n))), .val (.int sm), .val (.int so), .unset, .unset, .unset, .unset, .unset, .unset, .unset, .unset, .unset, .unset, .unset, .unset, .unset, .unset, .unset, .unset, .unset] [(.int p2)])
    refine own_go (fun t_ k_ => XS.bipush X22.here hx rfl (hb hby at_189) k_) ?_
    show own_Go p e below _ T22 (mkF m 191 #[.val (.long q1), .second, .val (.int p2), .val (.int p3), .val (.int p4), .val (.int p5), .val (.ref b1), .val (.long mm), .second, .val (.ref b21), .val (.int (Int32.ofNat n)), .val (.int (Int32.ofNat (20 - n))), .val (.int sm), .val (.int so), .unset, .unset, .unset, .unset, .unset, .unset, .unset, .unset, .unset, .unset, .unset, .unset, .unset, .unset, .unset, .unset, .unset] [(.int (7 : Int32)), (.int p2)])
    refine own_go (fun t_ k_ => XS.iushr X22.here hx rfl (hb hby at_191) rfl k_) ?_
    show own_Go p e below _ T22 (mkF m 192 #[.val (.long q1), .second, .val (.int p2), .val (.int p3), .val (.int p4), .val (.int p5), .val (.ref b1), .val (.long mm), .second, .val (.ref b21), .val (.int (Int32.ofNat n)), .val (.int (Int32.ofNat (20 - n))), .val (.int sm), .val (.int so), .unset, .unset, .unset, .unset, .unset, .unset, .unset, .unset, .unset, .unset, .unset, .unset, .unset, .unset, .unset, .unset, .unset] [(.int ((p2.toUInt32 >>> ((7 : Int32) &&& 31).toUInt32).toInt32))])
    refine own_go (fun t_ k_ => XS.iconst X22.here hx rfl (hb hby at_192) k_) ?_
    show own_Go p e below _ T22 (mkF m 193 #[.val (.long q1), .second, .val (.int p2), .val (.int p3), .val (.int p4), .val (.int p5), .val (.ref b1), .val (.long mm), .second, .val (.ref b21), .val (.int (Int32.ofNat n)), .val (.int (Int32.ofNat (20 - n))), .val (.int sm), .val (.int so), .unset, .unset, .unset, .unset, .unset, .unset, .unset, .unset, .unset, .unset, .unset, .unset, .unset, .unset, .unset, .unset, .unset] [(.int (1 : Int32)), (.int ((p2.toUInt32 >>> ((7 : Int32) &&& 31).toUInt32).toInt32))])
    refine own_go (fun t_ k_ => XS.iand X22.here hx rfl (hb hby at_193) rfl k_) ?_
    show own_Go p e below _ T22 (mkF m 194 #[.val (.long q1), .second, .val (.int p2), .val (.int p3), .val (.int p4), .val (.int p5), .val (.ref b1), .val (.long mm), .second, .val (.ref b21), .val (.int (Int32.ofNat n)), .val (.int (Int32.ofNat (20 - n))), .val (.int sm), .val (.int so), .unset, .unset, .unset, .unset, .unset, .unset, .unset, .unset, .unset, .unset, .unset, .unset, .unset, .unset, .unset, .unset, .unset] [(.int (((p2.toUInt32 >>> ((7 : Int32) &&& 31).toUInt32).toInt32) &&& (1 : Int32)))])
    have jn194 : ∀ (tO : Int32), (((((p2.toUInt32 >>> ((7 : Int32) &&& 31).toUInt32).toInt32) &&& (1 : Int32)) = 0) → tO = (0 : Int32)) → (¬ ((((p2.toUInt32 >>> ((7 : Int32) &&& 31).toUInt32).toInt32) &&& (1 : Int32)) = 0) → tO = (1 : Int32)) → own_Go p e below (own_K (fun v h L => v = some (.int 1) ∧ Fr n0 L) s room_1.cells room_1.slots) T22 (mkF m 202 #[.val (.long q1), .second, .val (.int p2), .val (.int p3), .val (.int p4), .val (.int p5), .val (.ref b1), .val (.long mm), .second, .val (.ref b21), .val (.int (Int32.ofNat n)), .val (.int (Int32.ofNat (20 - n))), .val (.int sm), .val (.int so), .unset, .unset, .unset, .unset, .unset, .unset, .unset, .unset, .unset, .unset, .unset, .unset, .unset, .unset, .unset, .unset, .unset] [(.int tO)]) := by
      intro tO tO_t tO_f
      refine own_go (fun t_ k_ => XS.istore X22.here hx rfl (hb hby at_202) rfl (l' := #[.val (.long q1), .second, .val (.int p2), .val (.int p3), .val (.int p4), .val (.int p5), .val (.ref b1), .val (.long mm), .second, .val (.ref b21), .val (.int (Int32.ofNat n)), .val (.int (Int32.ofNat (20 - n))), .val (.int sm), .val (.int so), .val (.int tO), .unset, .unset, .unset, .unset, .unset, .unset, .unset, .unset, .unset, .unset, .unset, .unset, .unset, .unset, .unset, .unset]) rfl k_) ?_
      show own_Go p e below _ T22 (mkF m 204 #[.val (.long q1), .second, .val (.int p2), .val (.int p3), .val (.int p4), .val (.int p5), .val (.ref b1), .val (.long mm), .second, .val (.ref b21), .val (.int (Int32.ofNat n)), .val (.int (Int32.ofNat (20 - n))), .val (.int sm), .val (.int so), .val (.int tO), .unset, .unset, .unset, .unset, .unset, .unset, .unset, .unset, .unset, .unset, .unset, .unset, .unset, .unset, .unset, .unset] [])
      refine own_go (fun t_ k_ => XS.iloadN X22.here hx rfl (hb hby at_204) rfl k_) ?_
      show own_Go p e below _ T22 (mkF m 205 #[.val (.long q1), .second, .val (.int p2), .val (.int p3), .val (.int p4), .val (.int p5), .val (.ref b1), .val (.long mm), .second, .val (.ref b21), .val (.int (Int32.ofNat n)), .val (.int (Int32.ofNat (20 - n))), .val (.int sm), .val (.int so), .val (.int tO), .unset, .unset, .unset, .unset, .unset, .unset, .unset, .unset, .unset, .unset, .unset, .unset, .unset, .unset, .unset, .unset] [(.int p2)])
      refine own_go (fun t_ k_ => XS.bipush X22.here hx rfl (hb hby at_205) k_) ?_
      show own_Go p e below _ T22 (mkF m 207 #[.val (.long q1), .second, .val (.int p2), .val (.int p3), .val (.int p4), .val (.int p5), .val (.ref b1), .val (.long mm), .second, .val (.ref b21), .val (.int (Int32.ofNat n)), .val (.int (Int32.ofNat (20 - n))), .val (.int sm), .val (.int so), .val (.int tO), .unset, .unset, .unset, .unset, .unset, .unset, .unset, .unset, .unset, .unset, .unset, .unset, .unset, .unset, .unset, .unset] [(.int (8 : Int32)), (.int p2)])
      refine own_go (fun t_ k_ => XS.iushr X22.here hx rfl (hb hby at_207) rfl k_) ?_
      show own_Go p e below _ T22 (mkF m 208 #[.val (.long q1), .second, .val (.int p2), .val (.int p3), .val (.int p4), .val (.int p5), .val (.ref b1), .val (.long mm), .second, .val (.ref b21), .val (.int (Int32.ofNat n)), .val (.int (Int32.ofNat (20 - n))), .val (.int sm), .val (.int so), .val (.int tO), .unset, .unset, .unset, .unset, .unset, .unset, .unset, .unset, .unset, .unset, .unset, .unset, .unset, .unset, .unset, .unset] [(.int ((p2.toUInt32 >>> ((8 : Int32) &&& 31).toUInt32).toInt32))])
      refine own_go (fun t_ k_ => XS.iconst X22.here hx rfl (hb hby at_208) k_) ?_
      show own_Go p e below _ T22 (mkF m 209 #[.val (.long q1), .second, .val (.int p2), .val (.int p3), .val (.int p4), .val (.int p5), .val (.ref b1), .val (.long mm), .second, .val (.ref b21), .val (.int (Int32.ofNat n)), .val (.int (Int32.ofNat (20 - n))), .val (.int sm), .val (.int so), .val (.int tO), .unset, .unset, .unset, .unset, .unset, .unset, .unset, .unset, .unset, .unset, .unset, .unset, .unset, .unset, .unset, .unset] [(.int (1 : Int32)), (.int ((p2.toUInt32 >>> ((8 : Int32) &&& 31).toUInt32).toInt32))])
      refine own_go (fun t_ k_ => XS.iand X22.here hx rfl (hb hby at_209) rfl k_) ?_
      show own_Go p e below _ T22 (mkF m 210 #[.val (.long q1), .second, .val (.int p2), .val (.int p3), .val (.int p4), .val (.int p5), .val (.ref b1), .val (.long mm), .second, .val (.ref b21), .val (.int (Int32.ofNat n)), .val (.int (Int32.ofNat (20 - n))), .val (.int sm), .val (.int so), .val (.int tO), .unset, .unset, .unset, .unset, .unset, .unset, .unset, .unset, .unset, .unset, .unset, .unset, .unset, .unset, .unset, .unset] [(.int (((p2.toUInt32 >>> ((8 : Int32) &&& 31).toUInt32).toInt32) &&& (1 : Int32)))])
      have j224 : ∀ (wo : Int32) (Ta : State) (La : List Loc) (Xa : Stand p l e room_1 s m #[(.long q1), (.int p2), (.int p3), (.int p4), (.int p5)] below meth c Ta La 2 40) (Na : Fr n0 La) (ea : Ta.heap = T22.heap) (hwo : wo = 0 ∨ 2 ≤ n), own_Go p e below (own_K (fun v h L => v = some (.int 1) ∧ Fr n0 L) s room_1.cells room_1.slots) Ta (mkF m 224 #[.val (.long q1), .second, .val (.int p2), .val (.int p3), .val (.int p4), .val (.int p5), .val (.ref b1), .val (.long mm), .second, .val (.ref b21), .val (.int (Int32.ofNat n)), .val (.int (Int32.ofNat (20 - n))), .val (.int sm), .val (.int so), .val (.int tO), .unset, .unset, .unset, .unset, .unset, .unset, .unset, .unset, .unset, .unset, .unset, .unset, .unset, .unset, .unset, .unset] [(.int wo)]) := by
        intro wo Ta La Xa Na ea hwo
        refine own_go (fun t_ k_ => XS.istore Xa.here hx rfl (hb hby at_224) rfl (l' := #[.val (.long q1), .second, .val (.int p2), .val (.int p3), .val (.int p4), .val (.int p5), .val (.ref b1), .val (.long mm), .second, .val (.ref b21), .val (.int (Int32.ofNat n)), .val (.int (Int32.ofNat (20 - n))), .val (.int sm), .val (.int so), .val (.int tO), .val (.int wo), .unset, .unset, .unset, .unset, .unset, .unset, .unset, .unset, .unset, .unset, .unset, .unset, .unset, .unset, .unset]) rfl k_) ?_
        show own_Go p e below _ Ta (mkF m 226 #[.val (.long q1), .second, .val (.int p2), .val (.int p3), .val (.int p4), .val (.int p5), .val (.ref b1), .val (.long mm), .second, .val (.ref b21), .val (.int (Int32.ofNat n)), .val (.int (Int32.ofNat (20 - n))), .val (.int sm), .val (.int so), .val (.int tO), .val (.int wo), .unset, .unset, .unset, .unset, .unset, .unset, .unset, .unset, .unset, .unset, .unset, .unset, .unset, .unset, .unset] [])
        refine own_go (fun t_ k_ => XS.iload Xa.here hx rfl (hb hby at_226) rfl k_) ?_
        show own_Go p e below _ Ta (mkF m 228 #[.val (.long q1), .second, .val (.int p2), .val (.int p3), .val (.int p4), .val (.int p5), .val (.ref b1), .val (.long mm), .second, .val (.ref b21), .val (.int (Int32.ofNat n)), .val (.int (Int32.ofNat (20 - n))), .val (.int sm), .val (.int so), .val (.int tO), .val (.int wo), .unset, .unset, .unset, .unset, .unset, .unset, .unset, .unset, .unset, .unset, .unset, .unset, .unset, .unset, .unset] [(.int sm)])
        refine own_go (fun t_ k_ => XS.iconst Xa.here hx rfl (hb hby at_228) k_) ?_
        show own_Go p e below _ Ta (mkF m 229 #[.val (.long q1), .second, .val (.int p2), .val (.int p3), .val (.int p4), .val (.int p5), .val (.ref b1), .val (.long mm), .second, .val (.ref b21), .val (.int (Int32.ofNat n)), .val (.int (Int32.ofNat (20 - n))), .val (.int sm), .val (.int so), .val (.int tO), .val (.int wo), .unset, .unset, .unset, .unset, .unset, .unset, .unset, .unset, .unset, .unset, .unset, .unset, .unset, .unset, .unset] [(.int (1 : Int32)), (.int sm)])
        have jn229 : ∀ (sb : Int32), ((sm = (1 : Int32)) → sb = (45 : Int32)) → (¬ (sm = (1 : Int32)) → sb = p4.toInt8.toInt32) → own_Go p e below (own_K (fun v h L => v = some (.int 1) ∧ Fr n0 L) s room_1.cells room_1.slots) Ta (mkF m 240 #[.val (.long q1), .second, .val (.int p2), .val (.int p3), .val (.int p4), .val (.int p5), .val (.ref b1), .val (.long mm), .second, .val (.ref b21), .val (.int (Int32.ofNat n)), .val (.int (Int32.ofNat (20 - n))), .val (.int sm), .val (.int so), .val (.int tO), .val (.int wo), .unset, .unset, .unset, .unset, .unset, .unset, .unset, .unset, .unset, .unset, .unset, .unset, .unset, .unset, .unset] [(.int sb)]) := by
          intro sb sb_t sb_f
          have hsb : sb.toInt8.toInt32 = sb := own_jb sb_t sb_f (by decide) (own_b8 _)
          refine own_go (fun t_ k_ => XS.istore Xa.here hx rfl (hb hby at_240) rfl (l' := #[.val (.long q1), .second, .val (.int p2), .val (.int p3), .val (.int p4), .val (.int p5), .val (.ref b1), .val (.long mm), .second, .val (.ref b21), .val (.int (Int32.ofNat n)), .val (.int (Int32.ofNat (20 - n))), .val (.int sm), .val (.int so), .val (.int tO), .val (.int wo), .val (.int sb), .unset, .unset, .unset, .unset, .unset, .unset, .unset, .unset, .unset, .unset, .unset, .unset, .unset, .unset]) rfl k_) ?_
          show own_Go p e below _ Ta (mkF m 242 #[.val (.long q1), .second, .val (.int p2), .val (.int p3), .val (.int p4), .val (.int p5), .val (.ref b1), .val (.long mm), .second, .val (.ref b21), .val (.int (Int32.ofNat n)), .val (.int (Int32.ofNat (20 - n))), .val (.int sm), .val (.int so), .val (.int tO), .val (.int wo), .val (.int sb), .unset, .unset, .unset, .unset, .unset, .unset, .unset, .unset, .unset, .unset, .unset, .unset, .unset, .unset] [])
          refine own_go (fun t_ k_ => XS.iload Xa.here hx rfl (hb hby at_242) rfl k_) ?_
          show own_Go p e below _ Ta (mkF m 244 #[.val (.long q1), .second, .val (.int p2), .val (.int p3), .val (.int p4), .val (.int p5), .val (.ref b1), .val (.long mm), .second, .val (.ref b21), .val (.int (Int32.ofNat n)), .val (.int (Int32.ofNat (20 - n))), .val (.int sm), .val (.int so), .val (.int tO), .val (.int wo), .val (.int sb), .unset, .unset, .unset, .unset, .unset, .unset, .unset, .unset, .unset, .unset, .unset, .unset, .unset, .unset] [(.int p5)])
          refine own_go (fun t_ k_ => XS.i2b Xa.here hx rfl (hb hby at_244) rfl k_) ?_
          show own_Go p e below _ Ta (mkF m 245 #[.val (.long q1), .second, .val (.int p2), .val (.int p3), .val (.int p4), .val (.int p5), .val (.ref b1), .val (.long mm), .second, .val (.ref b21), .val (.int (Int32.ofNat n)), .val (.int (Int32.ofNat (20 - n))), .val (.int sm), .val (.int so), .val (.int tO), .val (.int wo), .val (.int sb), .unset, .unset, .unset, .unset, .unset, .unset, .unset, .unset, .unset, .unset, .unset, .unset, .unset, .unset] [(.int p5.toInt8.toInt32)])
          obtain ⟨tb, htb, etb⟩ : ∃ x : Int32, x.toInt8.toInt32 = x ∧ p5.toInt8.toInt32 = x := ⟨_, own_b8 _, rfl⟩
          rw [etb]
          show own_Go p e below _ Ta (mkF m 245 #[.val (.long q1), .second, .val (.int p2), .val (.int p3), .val (.int p4), .val (.int p5), .val (.ref b1), .val (.long mm), .second, .val (.ref b21), .val (.int (Int32.ofNat n)), .val (.int (Int32.ofNat (20 - n))), .val (.int sm), .val (.int so), .val (.int tO), .val (.int wo), .val (.int sb), .unset, .unset, .unset, .unset, .unset, .unset, .unset, .unset, .unset, .unset, .unset, .unset, .unset, .unset] [(.int tb)])
          refine own_go (fun t_ k_ => XS.istore Xa.here hx rfl (hb hby at_245) rfl (l' := #[.val (.long q1), .second, .val (.int p2), .val (.int p3), .val (.int p4), .val (.int p5), .val (.ref b1), .val (.long mm), .second, .val (.ref b21), .val (.int (Int32.ofNat n)), .val (.int (Int32.ofNat (20 - n))), .val (.int sm), .val (.int so), .val (.int tO), .val (.int wo), .val (.int sb), .val (.int tb), .unset, .unset, .unset, .unset, .unset, .unset, .unset, .unset, .unset, .unset, .unset, .unset, .unset]) rfl k_) ?_
          show own_Go p e below _ Ta (mkF m 247 #[.val (.long q1), .second, .val (.int p2), .val (.int p3), .val (.int p4), .val (.int p5), .val (.ref b1), .val (.long mm), .second, .val (.ref b21), .val (.int (Int32.ofNat n)), .val (.int (Int32.ofNat (20 - n))), .val (.int sm), .val (.int so), .val (.int tO), .val (.int wo), .val (.int sb), .val (.int tb), .unset, .unset, .unset, .unset, .unset, .unset, .unset, .unset, .unset, .unset, .unset, .unset, .unset] [])
          refine own_go (fun t_ k_ => XS.iloadN Xa.here hx rfl (hb hby at_247) rfl k_) ?_
          show own_Go p e below _ Ta (mkF m 248 #[.val (.long q1), .second, .val (.int p2), .val (.int p3), .val (.int p4), .val (.int p5), .val (.ref b1), .val (.long mm), .second, .val (.ref b21), .val (.int (Int32.ofNat n)), .val (.int (Int32.ofNat (20 - n))), .val (.int sm), .val (.int so), .val (.int tO), .val (.int wo), .val (.int sb), .val (.int tb), .unset, .unset, .unset, .unset, .unset, .unset, .unset, .unset, .unset, .unset, .unset, .unset, .unset] [(.int p3)])
          refine own_go (fun t_ k_ => XS.i2b Xa.here hx rfl (hb hby at_248) rfl k_) ?_
          show own_Go p e below _ Ta (mkF m 249 #[.val (.long q1), .second, .val (.int p2), .val (.int p3), .val (.int p4), .val (.int p5), .val (.ref b1), .val (.long mm), .second, .val (.ref b21), .val (.int (Int32.ofNat n)), .val (.int (Int32.ofNat (20 - n))), .val (.int sm), .val (.int so), .val (.int tO), .val (.int wo), .val (.int sb), .val (.int tb), .unset, .unset, .unset, .unset, .unset, .unset, .unset, .unset, .unset, .unset, .unset, .unset, .unset] [(.int p3.toInt8.toInt32)])
          obtain ⟨cb, hcb, ecb⟩ : ∃ x : Int32, x.toInt8.toInt32 = x ∧ p3.toInt8.toInt32 = x := ⟨_, own_b8 _, rfl⟩
          rw [ecb]
          show own_Go p e below _ Ta (mkF m 249 #[.val (.long q1), .second, .val (.int p2), .val (.int p3), .val (.int p4), .val (.int p5), .val (.ref b1), .val (.long mm), .second, .val (.ref b21), .val (.int (Int32.ofNat n)), .val (.int (Int32.ofNat (20 - n))), .val (.int sm), .val (.int so), .val (.int tO), .val (.int wo), .val (.int sb), .val (.int tb), .unset, .unset, .unset, .unset, .unset, .unset, .unset, .unset, .unset, .unset, .unset, .unset, .unset] [(.int cb)])
          refine own_go (fun t_ k_ => XS.istore Xa.here hx rfl (hb hby at_249) rfl (l' := #[.val (.long q1), .second, .val (.int p2), .val (.int p3), .val (.int p4), .val (.int p5), .val (.ref b1), .val (.long mm), .second, .val (.ref b21), .val (.int (Int32.ofNat n)), .val (.int (Int32.ofNat (20 - n))), .val (.int sm), .val (.int so), .val (.int tO), .val (.int wo), .val (.int sb), .val (.int tb), .val (.int cb), .unset, .unset, .unset, .unset, .unset, .unset, .unset, .unset, .unset, .unset, .unset, .unset]) rfl k_) ?_
          show own_Go p e below _ Ta (mkF m 251 #[.val (.long q1), .second, .val (.int p2), .val (.int p3), .val (.int p4), .val (.int p5), .val (.ref b1), .val (.long mm), .second, .val (.ref b21), .val (.int (Int32.ofNat n)), .val (.int (Int32.ofNat (20 - n))), .val (.int sm), .val (.int so), .val (.int tO), .val (.int wo), .val (.int sb), .val (.int tb), .val (.int cb), .unset, .unset, .unset, .unset, .unset, .unset, .unset, .unset, .unset, .unset, .unset, .unset] [])
          refine own_go (fun t_ k_ => XS.iload Xa.here hx rfl (hb hby at_251) rfl k_) ?_
          show own_Go p e below _ Ta (mkF m 253 #[.val (.long q1), .second, .val (.int p2), .val (.int p3), .val (.int p4), .val (.int p5), .val (.ref b1), .val (.long mm), .second, .val (.ref b21), .val (.int (Int32.ofNat n)), .val (.int (Int32.ofNat (20 - n))), .val (.int sm), .val (.int so), .val (.int tO), .val (.int wo), .val (.int sb), .val (.int tb), .val (.int cb), .unset, .unset, .unset, .unset, .unset, .unset, .unset, .unset, .unset, .unset, .unset, .unset] [(.int wo)])
          have j277 : ∀ (k : Nat) (Tb : State) (Lb : List Loc) (Xb : Stand p l e room_1 s m #[(.long q1), (.int p2), (.int p3), (.int p4), (.int p5)] below meth c Tb Lb 2 40) (Nb : Fr n0 Lb) (eb : Tb.heap = T22.heap) (hk : wo = 0 ∨ (20 - n < k ∧ k ≤ 19)), own_Go p e below (own_K (fun v h L => v = some (.int 1) ∧ Fr n0 L) s room_1.cells room_1.slots) Tb (mkF m 277 #[.val (.long q1), .second, .val (.int p2), .val (.int p3), .val (.int p4), .val (.int p5), .val (.ref b1), .val (.long mm), .second, .val (.ref b21), .val (.int (Int32.ofNat n)), .val (.int (Int32.ofNat (20 - n))), .val (.int sm), .val (.int so), .val (.int tO), .val (.int wo), .val (.int sb), .val (.int tb), .val (.int cb), .unset, .unset, .unset, .unset, .unset, .unset, .unset, .unset, .unset, .unset, .unset, .unset] [(.int (Int32.ofNat k))]) := by
            intro k Tb Lb Xb Nb eb hk
            refine own_go (fun t_ k_ => XS.istore Xb.here hx rfl (hb hby at_277) rfl (l' := #[.val (.long q1), .second, .val (.int p2), .val (.int p3), .val (.int p4), .val (.int p5), .val (.ref b1), .val (.long mm), .second, .val (.ref b21), .val (.int (Int32.ofNat n)), .val (.int (Int32.ofNat (20 - n))), .val (.int sm), .val (.int so), .val (.int tO), .val (.int wo), .val (.int sb), .val (.int tb), .val (.int cb), .val (.int (Int32.ofNat k)), .unset, .unset, .unset, .unset, .unset, .unset, .unset, .unset, .unset, .unset, .unset]) rfl k_) ?_
            show own_Go p e below _ Tb (mkF m 279 #[.val (.long q1), .second, .val (.int p2), .val (.int p3), .val (.int p4), .val (.int p5), .val (.ref b1), .val (.long mm), .second, .val (.ref b21), .val (.int (Int32.ofNat n)), .val (.int (Int32.ofNat (20 - n))), .val (.int sm), .val (.int so), .val (.int tO), .val (.int wo), .val (.int sb), .val (.int tb), .val (.int cb), .val (.int (Int32.ofNat k)), .unset, .unset, .unset, .unset, .unset, .unset, .unset, .unset, .unset, .unset, .unset] [])
            refine own_go (fun t_ k_ => XS.aload Xb.here hx rfl (hb hby at_279) rfl rfl k_) ?_
            show own_Go p e below _ Tb (mkF m 281 #[.val (.long q1), .second, .val (.int p2), .val (.int p3), .val (.int p4), .val (.int p5), .val (.ref b1), .val (.long mm), .second, .val (.ref b21), .val (.int (Int32.ofNat n)), .val (.int (Int32.ofNat (20 - n))), .val (.int sm), .val (.int so), .val (.int tO), .val (.int wo), .val (.int sb), .val (.int tb), .val (.int cb), .val (.int (Int32.ofNat k)), .unset, .unset, .unset, .unset, .unset, .unset, .unset, .unset, .unset, .unset, .unset] [(.ref b21)])
            refine own_go (fun t_ k_ => XS.bipush Xb.here hx rfl (hb hby at_281) k_) ?_
            show own_Go p e below _ Tb (mkF m 283 #[.val (.long q1), .second, .val (.int p2), .val (.int p3), .val (.int p4), .val (.int p5), .val (.ref b1), .val (.long mm), .second, .val (.ref b21), .val (.int (Int32.ofNat n)), .val (.int (Int32.ofNat (20 - n))), .val (.int sm), .val (.int so), .val (.int tO), .val (.int wo), .val (.int sb), .val (.int tb), .val (.int cb), .val (.int (Int32.ofNat k)), .unset, .unset, .unset, .unset, .unset, .unset, .unset, .unset, .unset, .unset, .unset] [(.int (20 : Int32)), (.ref b21)])
            refine own_go (fun t_ k_ => XS.iload Xb.here hx rfl (hb hby at_283) rfl k_) ?_
            show own_Go p e below _ Tb (mkF m 285 #[.val (.long q1), .second, .val (.int p2), .val (.int p3), .val (.int p4), .val (.int p5), .val (.ref b1), .val (.long mm), .second, .val (.ref b21), .val (.int (Int32.ofNat n)), .val (.int (Int32.ofNat (20 - n))), .val (.int sm), .val (.int so), .val (.int tO), .val (.int wo), .val (.int sb), .val (.int tb), .val (.int cb), .val (.int (Int32.ofNat k)), .unset, .unset, .unset, .unset, .unset, .unset, .unset, .unset, .unset, .unset, .unset] [(.int tb), (.int (20 : Int32)), (.ref b21)])
            obtain ⟨T23, h23, L23, X23, N23, e23, ⟨sl23, v23, W23⟩, V23, st23⟩ := own_stBA Xb hx hZ eb Vb22 (by decide) 20 (by omega) (y := tb) htb (f' := (fun x => if x = 20 then tb else own_f0 mm x)) (fun x => rfl) Nb ge_b21 (Ls := #[.val (.long q1), .second, .val (.int p2), .val (.int p3), .val (.int p4), .val (.int p5), .val (.ref b1), .val (.long mm), .second, .val (.ref b21), .val (.int (Int32.ofNat n)), .val (.int (Int32.ofNat (20 - n))), .val (.int sm), .val (.int so), .val (.int tO), .val (.int wo), .val (.int sb), .val (.int tb), .val (.int cb), .val (.int (Int32.ofNat k)), .unset, .unset, .unset, .unset, .unset, .unset, .unset, .unset, .unset, .unset, .unset]) (rest := []) (hb hby at_285)
            have old23 := old22.wr W23 ge_b21
            refine own_go st23 ?_
            show own_Go p e below _ T23 (mkF m 286 #[.val (.long q1), .second, .val (.int p2), .val (.int p3), .val (.int p4), .val (.int p5), .val (.ref b1), .val (.long mm), .second, .val (.ref b21), .val (.int (Int32.ofNat n)), .val (.int (Int32.ofNat (20 - n))), .val (.int sm), .val (.int so), .val (.int tO), .val (.int wo), .val (.int sb), .val (.int tb), .val (.int cb), .val (.int (Int32.ofNat k)), .unset, .unset, .unset, .unset, .unset, .unset, .unset, .unset, .unset, .unset, .unset] [])
            refine own_go (fun t_ k_ => XS.iload X23.here hx rfl (hb hby at_286) rfl k_) ?_
            show own_Go p e below _ T23 (mkF m 288 #[.val (.long q1), .second, .val (.int p2), .val (.int p3), .val (.int p4), .val (.int p5), .val (.ref b1), .val (.long mm), .second, .val (.ref b21), .val (.int (Int32.ofNat n)), .val (.int (Int32.ofNat (20 - n))), .val (.int sm), .val (.int so), .val (.int tO), .val (.int wo), .val (.int sb), .val (.int tb), .val (.int cb), .val (.int (Int32.ofNat k)), .unset, .unset, .unset, .unset, .unset, .unset, .unset, .unset, .unset, .unset, .unset] [(.int wo)])
            have j298 : ∀ (hh : Heap) (Td : State) (Ld : List Loc) (Xd : Stand p l e room_1 s m #[(.long q1), (.int p2), (.int p3), (.int p4), (.int p5)] below meth c Td Ld 2 40) (Nd : Fr n0 Ld) (ed : Td.heap = hh) (oldc : Old Z n0 hh) (Vbc : own_BA Z hh b21 21 (own_f1 mm tb wo cb k)) (Vtc : own_LA Z hh b1 19 own_ten), own_Go p e below (own_K (fun v h L => v = some (.int 1) ∧ Fr n0 L) s room_1.cells room_1.slots) Td (mkF m 298 #[.val (.long q1), .second, .val (.int p2), .val (.int p3), .val (.int p4), .val (.int p5), .val (.ref b1), .val (.long mm), .second, .val (.ref b21), .val (.int (Int32.ofNat n)), .val (.int (Int32.ofNat (20 - n))), .val (.int sm), .val (.int so), .val (.int tO), .val (.int wo), .val (.int sb), .val (.int tb), .val (.int cb), .val (.int (Int32.ofNat k)), .unset, .unset, .unset, .unset, .unset, .unset, .unset, .unset, .unset, .unset, .unset] []) := by
              intro hh Td Ld Xd Nd ed oldc Vbc Vtc
              refine own_go (fun t_ k_ => XS.iload Xd.here hx rfl (hb hby at_298) rfl k_) ?_
              show own_Go p e below _ Td (mkF m 300 #[.val (.long q1), .second, .val (.int p2), .val (.int p3), .val (.int p4), .val (.int p5), .val (.ref b1), .val (.long mm), .second, .val (.ref b21), .val (.int (Int32.ofNat n)), .val (.int (Int32.ofNat (20 - n))), .val (.int sm), .val (.int so), .val (.int tO), .val (.int wo), .val (.int sb), .val (.int tb), .val (.int cb), .val (.int (Int32.ofNat k)), .unset, .unset, .unset, .unset, .unset, .unset, .unset, .unset, .unset, .unset, .unset] [(.int (Int32.ofNat (20 - n)))])
              refine own_go (fun t_ k_ => XS.istore Xd.here hx rfl (hb hby at_300) rfl (l' := #[.val (.long q1), .second, .val (.int p2), .val (.int p3), .val (.int p4), .val (.int p5), .val (.ref b1), .val (.long mm), .second, .val (.ref b21), .val (.int (Int32.ofNat n)), .val (.int (Int32.ofNat (20 - n))), .val (.int sm), .val (.int so), .val (.int tO), .val (.int wo), .val (.int sb), .val (.int tb), .val (.int cb), .val (.int (Int32.ofNat k)), .val (.int (Int32.ofNat (20 - n))), .unset, .unset, .unset, .unset, .unset, .unset, .unset, .unset, .unset, .unset]) rfl k_) ?_
              show own_Go p e below _ Td (mkF m 302 #[.val (.long q1), .second, .val (.int p2), .val (.int p3), .val (.int p4), .val (.int p5), .val (.ref b1), .val (.long mm), .second, .val (.ref b21), .val (.int (Int32.ofNat n)), .val (.int (Int32.ofNat (20 - n))), .val (.int sm), .val (.int so), .val (.int tO), .val (.int wo), .val (.int sb), .val (.int tb), .val (.int cb), .val (.int (Int32.ofNat k)), .val (.int (Int32.ofNat (20 - n))), .unset, .unset, .unset, .unset, .unset, .unset, .unset, .unset, .unset, .unset] [])
              refine own_go (fun t_ k_ => XS.iload Xd.here hx rfl (hb hby at_302) rfl k_) ?_
              show own_Go p e below _ Td (mkF m 304 #[.val (.long q1), .second, .val (.int p2), .val (.int p3), .val (.int p4), .val (.int p5), .val (.ref b1), .val (.long mm), .second, .val (.ref b21), .val (.int (Int32.ofNat n)), .val (.int (Int32.ofNat (20 - n))), .val (.int sm), .val (.int so), .val (.int tO), .val (.int wo), .val (.int sb), .val (.int tb), .val (.int cb), .val (.int (Int32.ofNat k)), .val (.int (Int32.ofNat (20 - n))), .unset, .unset, .unset, .unset, .unset, .unset, .unset, .unset, .unset, .unset] [(.int so)])
              have j322 : ∀ (hi : Heap) (fr : Nat) (Te : State) (Le : List Loc) (Xe : Stand p l e room_1 s m #[(.long q1), (.int p2), (.int p3), (.int p4), (.int p5)] below meth c Te Le 2 40) (Ne : Fr n0 Le) (ee : Te.heap = hi) (hfr : fr = own_a so n) (olde : Old Z n0 hi) (Vbe : own_BA Z hi b21 21 (own_f2 mm tb wo cb so sb k n)) (Vte : own_LA Z hi b1 19 own_ten), own_Go p e below (own_K (fun v h L => v = some (.int 1) ∧ Fr n0 L) s room_1.cells room_1.slots) Te (mkF m 322 #[.val (.long q1), .second, .val (.int p2), .val (.int p3), .val (.int p4), .val (.int p5), .val (.ref b1), .val (.long mm), .second, .val (.ref b21), .val (.int (Int32.ofNat n)), .val (.int (Int32.ofNat (20 - n))), .val (.int sm), .val (.int so), .val (.int tO), .val (.int wo), .val (.int sb), .val (.int tb), .val (.int cb), .val (.int (Int32.ofNat k)), .val (.int (Int32.ofNat fr)), .unset, .unset, .unset, .unset, .unset, .unset, .unset, .unset, .unset, .unset] []) := by
                intro hi fr Te Le Xe Ne ee hfr olde Vbe Vte
                refine own_go (fun t_ k_ => XS.iload Xe.here hx rfl (hb hby at_322) rfl k_) ?_
                show own_Go p e below _ Te (mkF m 324 #[.val (.long q1), .second, .val (.int p2), .val (.int p3), .val (.int p4), .val (.int p5), .val (.ref b1), .val (.long mm), .second, .val (.ref b21), .val (.int (Int32.ofNat n)), .val (.int (Int32.ofNat (20 - n))), .val (.int sm), .val (.int so), .val (.int tO), .val (.int wo), .val (.int sb), .val (.int tb), .val (.int cb), .val (.int (Int32.ofNat k)), .val (.int (Int32.ofNat fr)), .unset, .unset, .unset, .unset, .unset, .unset, .unset, .unset, .unset, .unset] [(.int tO)])
                have j334 : ∀ (t : Nat) (Tf : State) (Lf : List Loc) (Xf : Stand p l e room_1 s m #[(.long q1), (.int p2), (.int p3), (.int p4), (.int p5)] below meth c Tf Lf 2 40) (Nf : Fr n0 Lf) (ef : Tf.heap = hi) (htt : t = own_t tO), own_Go p e below (own_K (fun v h L => v = some (.int 1) ∧ Fr n0 L) s room_1.cells room_1.slots) Tf (mkF m 334 #[.val (.long q1), .second, .val (.int p2), .val (.int p3), .val (.int p4), .val (.int p5), .val (.ref b1), .val (.long mm), .second, .val (.ref b21), .val (.int (Int32.ofNat n)), .val (.int (Int32.ofNat (20 - n))), .val (.int sm), .val (.int so), .val (.int tO), .val (.int wo), .val (.int sb), .val (.int tb), .val (.int cb), .val (.int (Int32.ofNat k)), .val (.int (Int32.ofNat fr)), .unset, .unset, .unset, .unset, .unset, .unset, .unset, .unset, .unset, .unset] [(.int (Int32.ofNat t))]) := by
                  intro t Tf Lf Xf Nf ef htt
                  subst htt
                  subst hfr
                  show own_Go p e below _ Tf (mkF m 334 #[.val (.long q1), .second, .val (.int p2), .val (.int p3), .val (.int p4), .val (.int p5), .val (.ref b1), .val (.long mm), .second, .val (.ref b21), .val (.int (Int32.ofNat n)), .val (.int (Int32.ofNat (20 - n))), .val (.int sm), .val (.int so), .val (.int tO), .val (.int wo), .val (.int sb), .val (.int tb), .val (.int cb), .val (.int (Int32.ofNat k)), .val (.int (Int32.ofNat (own_a so n))), .unset, .unset, .unset, .unset, .unset, .unset, .unset, .unset, .unset, .unset] [(.int (Int32.ofNat (own_t tO)))])
                  have hat : own_a so n ≤ own_t tO := by unfold own_a own_t; split <;> split <;> omega
                  have ht21 : own_t tO ≤ 21 := by unfold own_t; split <;> omega
                  refine own_go (fun t_ k_ => XS.istore Xf.here hx rfl (hb hby at_334) rfl (l' := #[.val (.long q1), .second, .val (.int p2), .val (.int p3), .val (.int p4), .val (.int p5), .val (.ref b1), .val (.long mm), .second, .val (.ref b21), .val (.int (Int32.ofNat n)), .val (.int (Int32.ofNat (20 - n))), .val (.int sm), .val (.int so), .val (.int tO), .val (.int wo), .val (.int sb), .val (.int tb), .val (.int cb), .val (.int (Int32.ofNat k)), .val (.int (Int32.ofNat (own_a so n))), .val (.int (Int32.ofNat (own_t tO))), .unset, .unset, .unset, .unset, .unset, .unset, .unset, .unset, .unset]) rfl k_) ?_
                  show own_Go p e below _ Tf (mkF m 336 #[.val (.long q1), .second, .val (.int p2), .val (.int p3), .val (.int p4), .val (.int p5), .val (.ref b1), .val (.long mm), .second, .val (.ref b21), .val (.int (Int32.ofNat n)), .val (.int (Int32.ofNat (20 - n))), .val (.int sm), .val (.int so), .val (.int tO), .val (.int wo), .val (.int sb), .val (.int tb), .val (.int cb), .val (.int (Int32.ofNat k)), .val (.int (Int32.ofNat (own_a so n))), .val (.int (Int32.ofNat (own_t tO))), .unset, .unset, .unset, .unset, .unset, .unset, .unset, .unset, .unset] [])
                  refine own_go (fun t_ k_ => XS.aload Xf.here hx rfl (hb hby at_336) rfl rfl k_) ?_
                  show own_Go p e below _ Tf (mkF m 338 #[.val (.long q1), .second, .val (.int p2), .val (.int p3), .val (.int p4), .val (.int p5), .val (.ref b1), .val (.long mm), .second, .val (.ref b21), .val (.int (Int32.ofNat n)), .val (.int (Int32.ofNat (20 - n))), .val (.int sm), .val (.int so), .val (.int tO), .val (.int wo), .val (.int sb), .val (.int tb), .val (.int cb), .val (.int (Int32.ofNat k)), .val (.int (Int32.ofNat (own_a so n))), .val (.int (Int32.ofNat (own_t tO))), .unset, .unset, .unset, .unset, .unset, .unset, .unset, .unset, .unset] [(.ref b21)])
                  refine own_go (fun t_ k_ => XS.iload Xf.here hx rfl (hb hby at_338) rfl k_) ?_
                  show own_Go p e below _ Tf (mkF m 340 #[.val (.long q1), .second, .val (.int p2), .val (.int p3), .val (.int p4), .val (.int p5), .val (.ref b1), .val (.long mm), .second, .val (.ref b21), .val (.int (Int32.ofNat n)), .val (.int (Int32.ofNat (20 - n))), .val (.int sm), .val (.int so), .val (.int tO), .val (.int wo), .val (.int sb), .val (.int tb), .val (.int cb), .val (.int (Int32.ofNat k)), .val (.int (Int32.ofNat (own_a so n))), .val (.int (Int32.ofNat (own_t tO))), .unset, .unset, .unset, .unset, .unset, .unset, .unset, .unset, .unset] [(.int (Int32.ofNat (own_a so n))), (.ref b21)])
                  refine own_go (fun t_ k_ => XS.iload Xf.here hx rfl (hb hby at_340) rfl k_) ?_
                  show own_Go p e below _ Tf (mkF m 342 #[.val (.long q1), .second, .val (.int p2), .val (.int p3), .val (.int p4), .val (.int p5), .val (.ref b1), .val (.long mm), .second, .val (.ref b21), .val (.int (Int32.ofNat n)), .val (.int (Int32.ofNat (20 - n))), .val (.int sm), .val (.int so), .val (.int tO), .val (.int wo), .val (.int sb), .val (.int tb), .val (.int cb), .val (.int (Int32.ofNat k)), .val (.int (Int32.ofNat (own_a so n))), .val (.int (Int32.ofNat (own_t tO))), .unset, .unset, .unset, .unset, .unset, .unset, .unset, .unset, .unset] [(.int (Int32.ofNat (own_t tO))), (.int (Int32.ofNat (own_a so n))), (.ref b21)])
                  obtain ⟨_, T24, L24, X24, ⟨⟨r, rfl, hr, hrr⟩, K24, old24, N24⟩, st24⟩ := own_callS Xf hx hZ (y := (⟨"com/example/gridtally/gridtally/core/Decimals", "integer", "([BII)Ljava/lang/Long;"⟩ : MethodName)) (argsL := [(.ref b21), (.int (Int32.ofNat (own_a so n))), (.int (Int32.ofNat (own_t tO)))]) (rest := []) (Ls := #[.val (.long q1), .second, .val (.int p2), .val (.int p3), .val (.int p4), .val (.int p5), .val (.ref b1), .val (.long mm), .second, .val (.ref b21), .val (.int (Int32.ofNat n)), .val (.int (Int32.ofNat (20 - n))), .val (.int sm), .val (.int so), .val (.int tO), .val (.int wo), .val (.int sb), .val (.int tb), .val (.int cb), .val (.int (Int32.ofNat k)), .val (.int (Int32.ofNat (own_a so n))), .val (.int (Int32.ofNat (own_t tO))), .unset, .unset, .unset, .unset, .unset, .unset, .unset, .unset, .unset]) hown (own_w hw 29 rfl) (own_w hw 30 rfl) (own_w hw 31 rfl) (own_w hw 32 rfl) (by decide) ef (rmInt l Z a0 hw [] b21 (own_f2 mm tb wo cb so sb k n) (own_a so n) (own_t tO) ac cc hi n0 (own_oldge olde) olde Vbe hat ht21 S_C A_C hs_C he_C) 0 (by decide) (by decide) (by decide) (by decide) (by rw [hml]; rfl) (lenOf pd_9 rfl) rfl (Nat.le_of_eq rfl) (hb hby at_342)
                  have M24 := Fr.app Nf N24
                  rw [own_A hm hn hk] at hrr
                  refine own_go st24 ?_
                  show own_Go p e below _ T24 (mkF m 345 #[.val (.long q1), .second, .val (.int p2), .val (.int p3), .val (.int p4), .val (.int p5), .val (.ref b1), .val (.long mm), .second, .val (.ref b21), .val (.int (Int32.ofNat n)), .val (.int (Int32.ofNat (20 - n))), .val (.int sm), .val (.int so), .val (.int tO), .val (.int wo), .val (.int sb), .val (.int tb), .val (.int cb), .val (.int (Int32.ofNat k)), .val (.int (Int32.ofNat (own_a so n))), .val (.int (Int32.ofNat (own_t tO))), .unset, .unset, .unset, .unset, .unset, .unset, .unset, .unset, .unset] [r])
                  refine own_go (fun t_ k_ => XS.astore X24.here hx rfl (hb hby at_345) rfl hr (l' := #[.val (.long q1), .second, .val (.int p2), .val (.int p3), .val (.int p4), .val (.int p5), .val (.ref b1), .val (.long mm), .second, .val (.ref b21), .val (.int (Int32.ofNat n)), .val (.int (Int32.ofNat (20 - n))), .val (.int sm), .val (.int so), .val (.int tO), .val (.int wo), .val (.int sb), .val (.int tb), .val (.int cb), .val (.int (Int32.ofNat k)), .val (.int (Int32.ofNat (own_a so n))), .val (.int (Int32.ofNat (own_t tO))), .val r, .unset, .unset, .unset, .unset, .unset, .unset, .unset, .unset]) (by rcases ref_cases hr with h | ⟨z, h⟩ <;> rw [h] <;> rfl) k_) ?_
                  show own_Go p e below _ T24 (mkF m 347 #[.val (.long q1), .second, .val (.int p2), .val (.int p3), .val (.int p4), .val (.int p5), .val (.ref b1), .val (.long mm), .second, .val (.ref b21), .val (.int (Int32.ofNat n)), .val (.int (Int32.ofNat (20 - n))), .val (.int sm), .val (.int so), .val (.int tO), .val (.int wo), .val (.int sb), .val (.int tb), .val (.int cb), .val (.int (Int32.ofNat k)), .val (.int (Int32.ofNat (own_a so n))), .val (.int (Int32.ofNat (own_t tO))), .val r, .unset, .unset, .unset, .unset, .unset, .unset, .unset, .unset] [])
                  refine own_go (fun t_ k_ => XS.iload X24.here hx rfl (hb hby at_347) rfl k_) ?_
                  show own_Go p e below _ T24 (mkF m 349 #[.val (.long q1), .second, .val (.int p2), .val (.int p3), .val (.int p4), .val (.int p5), .val (.ref b1), .val (.long mm), .second, .val (.ref b21), .val (.int (Int32.ofNat n)), .val (.int (Int32.ofNat (20 - n))), .val (.int sm), .val (.int so), .val (.int tO), .val (.int wo), .val (.int sb), .val (.int tb), .val (.int cb), .val (.int (Int32.ofNat k)), .val (.int (Int32.ofNat (own_a so n))), .val (.int (Int32.ofNat (own_t tO))), .val r, .unset, .unset, .unset, .unset, .unset, .unset, .unset, .unset] [(.int so)])
                  have j364 : ∀ (ng : Int32) (Tg : State) (Lg : List Loc) (Xg : Stand p l e room_1 s m #[(.long q1), (.int p2), (.int p3), (.int p4), (.int p5)] below meth c Tg Lg 3 41) (Ng : Fr n0 Lg) (eg : Tg.heap = T24.heap) (hng : ng = 0 ↔ ¬ (so ≠ 0 ∧ sb = 45)), own_Go p e below (own_K (fun v h L => v = some (.int 1) ∧ Fr n0 L) s room_1.cells room_1.slots) Tg (mkF m 364 #[.val (.long q1), .second, .val (.int p2), .val (.int p3), .val (.int p4), .val (.int p5), .val (.ref b1), .val (.long mm), .second, .val (.ref b21), .val (.int (Int32.ofNat n)), .val (.int (Int32.ofNat (20 - n))), .val (.int sm), .val (.int so), .val (.int tO), .val (.int wo), .val (.int sb), .val (.int tb), .val (.int cb), .val (.int (Int32.ofNat k)), .val (.int (Int32.ofNat (own_a so n))), .val (.int (Int32.ofNat (own_t tO))), .val r, .unset, .unset, .unset, .unset, .unset, .unset, .unset, .unset] [(.int ng)]) := by
                    intro ng Tg Lg Xg Ng eg hng
                    refine own_go (fun t_ k_ => XS.istore Xg.here hx rfl (hb hby at_364) rfl (l' := #[.val (.long q1), .second, .val (.int p2), .val (.int p3), .val (.int p4), .val (.int p5), .val (.ref b1), .val (.long mm), .second, .val (.ref b21), .val (.int (Int32.ofNat n)), .val (.int (Int32.ofNat (20 - n))), .val (.int sm), .val (.int so), .val (.int tO), .val (.int wo), .val (.int sb), .val (.int tb), .val (.int cb), .val (.int (Int32.ofNat k)), .val (.int (Int32.ofNat (own_a so n))), .val (.int (Int32.ofNat (own_t tO))), .val r, .val (.int ng), .unset, .unset, .unset, .unset, .unset, .unset, .unset]) rfl k_) ?_
                    show own_Go p e below _ Tg (mkF m 366 #[.val (.long q1), .second, .val (.int p2), .val (.int p3), .val (.int p4), .val (.int p5), .val (.ref b1), .val (.long mm), .second, .val (.ref b21), .val (.int (Int32.ofNat n)), .val (.int (Int32.ofNat (20 - n))), .val (.int sm), .val (.int so), .val (.int tO), .val (.int wo), .val (.int sb), .val (.int tb), .val (.int cb), .val (.int (Int32.ofNat k)), .val (.int (Int32.ofNat (own_a so n))), .val (.int (Int32.ofNat (own_t tO))), .val r, .val (.int ng), .unset, .unset, .unset, .unset, .unset, .unset, .unset] [])
                    refine own_go (fun t_ k_ => XS.iload Xg.here hx rfl (hb hby at_366) rfl k_) ?_
                    show own_Go p e below _ Tg (mkF m 368 #[.val (.long q1), .second, .val (.int p2), .val (.int p3), .val (.int p4), .val (.int p5), .val (.ref b1), .val (.long mm), .second, .val (.ref b21), .val (.int (Int32.ofNat n)), .val (.int (Int32.ofNat (20 - n))), .val (.int sm), .val (.int so), .val (.int tO), .val (.int wo), .val (.int sb), .val (.int tb), .val (.int cb), .val (.int (Int32.ofNat k)), .val (.int (Int32.ofNat (own_a so n))), .val (.int (Int32.ofNat (own_t tO))), .val r, .val (.int ng), .unset, .unset, .unset, .unset, .unset, .unset, .unset] [(.int so)])
                    have j384 : ∀ (sd : Int32) (Th : State) (Lh : List Loc) (Xh : Stand p l e room_1 s m #[(.long q1), (.int p2), (.int p3), (.int p4), (.int p5)] below meth c Th Lh 3 41) (Nh : Fr n0 Lh) (eh : Th.heap = T24.heap) (hsd : sd = 0 ↔ ¬ (so ≠ 0 ∧ own_dig sb)), own_Go p e below (own_K (fun v h L => v = some (.int 1) ∧ Fr n0 L) s room_1.cells room_1.slots) Th (mkF m 384 #[.val (.long q1), .second, .val (.int p2), .val (.int p3), .val (.int p4), .val (.int p5), .val (.ref b1), .val (.long mm), .second, .val (.ref b21), .val (.int (Int32.ofNat n)), .val (.int (Int32.ofNat (20 - n))), .val (.int sm), .val (.int so), .val (.int tO), .val (.int wo), .val (.int sb), .val (.int tb), .val (.int cb), .val (.int (Int32.ofNat k)), .val (.int (Int32.ofNat (own_a so n))), .val (.int (Int32.ofNat (own_t tO))), .val r, .val (.int ng), .unset, .unset, .unset, .unset, .unset, .unset, .unset] [(.int sd)]) := by
                      intro sd Th Lh Xh Nh eh hsd
                      refine own_go (fun t_ k_ => XS.istore Xh.here hx rfl (hb hby at_384) rfl (l' := #[.val (.long q1), .second, .val (.int p2), .val (.int p3), .val (.int p4), .val (.int p5), .val (.ref b1), .val (.long mm), .second, .val (.ref b21), .val (.int (Int32.ofNat n)), .val (.int (Int32.ofNat (20 - n))), .val (.int sm), .val (.int so), .val (.int tO), .val (.int wo), .val (.int sb), .val (.int tb), .val (.int cb), .val (.int (Int32.ofNat k)), .val (.int (Int32.ofNat (own_a so n))), .val (.int (Int32.ofNat (own_t tO))), .val r, .val (.int ng), .val (.int sd), .unset, .unset, .unset, .unset, .unset, .unset]) rfl k_) ?_
                      show own_Go p e below _ Th (mkF m 386 #[.val (.long q1), .second, .val (.int p2), .val (.int p3), .val (.int p4), .val (.int p5), .val (.ref b1), .val (.long mm), .second, .val (.ref b21), .val (.int (Int32.ofNat n)), .val (.int (Int32.ofNat (20 - n))), .val (.int sm), .val (.int so), .val (.int tO), .val (.int wo), .val (.int sb), .val (.int tb), .val (.int cb), .val (.int (Int32.ofNat k)), .val (.int (Int32.ofNat (own_a so n))), .val (.int (Int32.ofNat (own_t tO))), .val r, .val (.int ng), .val (.int sd), .unset, .unset, .unset, .unset, .unset, .unset] [])
                      refine own_go (fun t_ k_ => XS.iload Xh.here hx rfl (hb hby at_386) rfl k_) ?_
                      show own_Go p e below _ Th (mkF m 388 #[.val (.long q1), .second, .val (.int p2), .val (.int p3), .val (.int p4), .val (.int p5), .val (.ref b1), .val (.long mm), .second, .val (.ref b21), .val (.int (Int32.ofNat n)), .val (.int (Int32.ofNat (20 - n))), .val (.int sm), .val (.int so), .val (.int tO), .val (.int wo), .val (.int sb), .val (.int tb), .val (.int cb), .val (.int (Int32.ofNat k)), .val (.int (Int32.ofNat (own_a so n))), .val (.int (Int32.ofNat (own_t tO))), .val r, .val (.int ng), .val (.int sd), .unset, .unset, .unset, .unset, .unset, .unset] [(.int tO)])
                      have j404 : ∀ (td : Int32) (Ti : State) (Li : List Loc) (Xi : Stand p l e room_1 s m #[(.long q1), (.int p2), (.int p3), (.int p4), (.int p5)] below meth c Ti Li 3 41) (Ni : Fr n0 Li) (ei : Ti.heap = T24.heap) (htd : td = 0 ↔ ¬ (tO ≠ 0 ∧ own_dig tb)), own_Go p e below (own_K (fun v h L => v = some (.int 1) ∧ Fr n0 L) s room_1.cells room_1.slots) Ti (mkF m 404 #[.val (.long q1), .second, .val (.int p2), .val (.int p3), .val (.int p4), .val (.int p5), .val (.ref b1), .val (.long mm), .second, .val (.ref b21), .val (.int (Int32.ofNat n)), .val (.int (Int32.ofNat (20 - n))), .val (.int sm), .val (.int so), .val (.int tO), .val (.int wo), .val (.int sb), .val (.int tb), .val (.int cb), .val (.int (Int32.ofNat k)), .val (.int (Int32.ofNat (own_a so n))), .val (.int (Int32.ofNat (own_t tO))), .val r, .val (.int ng), .val (.int sd), .unset, .unset, .unset, .unset, .unset, .unset] [(.int td)]) := by
                        intro td Ti Li Xi Ni ei htd
                        refine own_go (fun t_ k_ => XS.istore Xi.here hx rfl (hb hby at_404) rfl (l' := #[.val (.long q1), .second, .val (.int p2), .val (.int p3), .val (.int p4), .val (.int p5), .val (.ref b1), .val (.long mm), .second, .val (.ref b21), .val (.int (Int32.ofNat n)), .val (.int (Int32.ofNat (20 - n))), .val (.int sm), .val (.int so), .val (.int tO), .val (.int wo), .val (.int sb), .val (.int tb), .val (.int cb), .val (.int (Int32.ofNat k)), .val (.int (Int32.ofNat (own_a so n))), .val (.int (Int32.ofNat (own_t tO))), .val r, .val (.int ng), .val (.int sd), .val (.int td), .unset, .unset, .unset, .unset, .unset]) rfl k_) ?_
                        show own_Go p e below _ Ti (mkF m 406 #[.val (.long q1), .second, .val (.int p2), .val (.int p3), .val (.int p4), .val (.int p5), .val (.ref b1), .val (.long mm), .second, .val (.ref b21), .val (.int (Int32.ofNat n)), .val (.int (Int32.ofNat (20 - n))), .val (.int sm), .val (.int so), .val (.int tO), .val (.int wo), .val (.int sb), .val (.int tb), .val (.int cb), .val (.int (Int32.ofNat k)), .val (.int (Int32.ofNat (own_a so n))), .val (.int (Int32.ofNat (own_t tO))), .val r, .val (.int ng), .val (.int sd), .val (.int td), .unset, .unset, .unset, .unset, .unset] [])
                        refine own_go (fun t_ k_ => XS.iload Xi.here hx rfl (hb hby at_406) rfl k_) ?_
                        show own_Go p e below _ Ti (mkF m 408 #[.val (.long q1), .second, .val (.int p2), .val (.int p3), .val (.int p4), .val (.int p5), .val (.ref b1), .val (.long mm), .second, .val (.ref b21), .val (.int (Int32.ofNat n)), .val (.int (Int32.ofNat (20 - n))), .val (.int sm), .val (.int so), .val (.int tO), .val (.int wo), .val (.int sb), .val (.int tb), .val (.int cb), .val (.int (Int32.ofNat k)), .val (.int (Int32.ofNat (own_a so n))), .val (.int (Int32.ofNat (own_t tO))), .val r, .val (.int ng), .val (.int sd), .val (.int td), .unset, .unset, .unset, .unset, .unset] [(.int so)])
                        have j449 : ∀ (ok : Int32) (To : State) (Lo : List Loc) (Xo : Stand p l e room_1 s m #[(.long q1), (.int p2), (.int p3), (.int p4), (.int p5)] below meth c To Lo 3 41) (No : Fr n0 Lo) (eo : To.heap = T24.heap) (hok : ok = 0 ↔ ¬ (own_OK tb wo cb so sb tO)), own_Go p e below (own_K (fun v h L => v = some (.int 1) ∧ Fr n0 L) s room_1.cells room_1.slots) To (mkF m 449 #[.val (.long q1), .second, .val (.int p2), .val (.int p3), .val (.int p4), .val (.int p5), .val (.ref b1), .val (.long mm), .second, .val (.ref b21), .val (.int (Int32.ofNat n)), .val (.int (Int32.ofNat (20 - n))), .val (.int sm), .val (.int so), .val (.int tO), .val (.int wo), .val (.int sb), .val (.int tb), .val (.int cb), .val (.int (Int32.ofNat k)), .val (.int (Int32.ofNat (own_a so n))), .val (.int (Int32.ofNat (own_t tO))), .val r, .val (.int ng), .val (.int sd), .val (.int td), .unset, .unset, .unset, .unset, .unset] [(.int ok)]) := by
                          intro ok To Lo Xo No eo hok
                          refine own_go (fun t_ k_ => XS.istore Xo.here hx rfl (hb hby at_449) rfl (l' := #[.val (.long q1), .second, .val (.int p2), .val (.int p3), .val (.int p4), .val (.int p5), .val (.ref b1), .val (.long mm), .second, .val (.ref b21), .val (.int (Int32.ofNat n)), .val (.int (Int32.ofNat (20 - n))), .val (.int sm), .val (.int so), .val (.int tO), .val (.int wo), .val (.int sb), .val (.int tb), .val (.int cb), .val (.int (Int32.ofNat k)), .val (.int (Int32.ofNat (own_a so n))), .val (.int (Int32.ofNat (own_t tO))), .val r, .val (.int ng), .val (.int sd), .val (.int td), .val (.int ok), .unset, .unset, .unset, .unset]) rfl k_) ?_
                          show own_Go p e below _ To (mkF m 451 #[.val (.long q1), .second, .val (.int p2), .val (.int p3), .val (.int p4), .val (.int p5), .val (.ref b1), .val (.long mm), .second, .val (.ref b21), .val (.int (Int32.ofNat n)), .val (.int (Int32.ofNat (20 - n))), .val (.int sm), .val (.int so), .val (.int tO), .val (.int wo), .val (.int sb), .val (.int tb), .val (.int cb), .val (.int (Int32.ofNat k)), .val (.int (Int32.ofNat (own_a so n))), .val (.int (Int32.ofNat (own_t tO))), .val r, .val (.int ng), .val (.int sd), .val (.int td), .val (.int ok), .unset, .unset, .unset, .unset] [])
                          refine own_go (fun t_ k_ => XS.iload Xo.here hx rfl (hb hby at_451) rfl k_) ?_
                          show own_Go p e below _ To (mkF m 453 #[.val (.long q1), .second, .val (.int p2), .val (.int p3), .val (.int p4), .val (.int p5), .val (.ref b1), .val (.long mm), .second, .val (.ref b21), .val (.int (Int32.ofNat n)), .val (.int (Int32.ofNat (20 - n))), .val (.int sm), .val (.int so), .val (.int tO), .val (.int wo), .val (.int sb), .val (.int tb), .val (.int cb), .val (.int (Int32.ofNat k)), .val (.int (Int32.ofNat (own_a so n))), .val (.int (Int32.ofNat (own_t tO))), .val r, .val (.int ng), .val (.int sd), .val (.int td), .val (.int ok), .unset, .unset, .unset, .unset] [(.int (Int32.ofNat n))])
                          refine own_go (fun t_ k_ => XS.iload Xo.here hx rfl (hb hby at_453) rfl k_) ?_
                          show own_Go p e below _ To (mkF m 455 #[.val (.long q1), .second, .val (.int p2), .val (.int p3), .val (.int p4), .val (.int p5), .val (.ref b1), .val (.long mm), .second, .val (.ref b21), .val (.int (Int32.ofNat n)), .val (.int (Int32.ofNat (20 - n))), .val (.int sm), .val (.int so), .val (.int tO), .val (.int wo), .val (.int sb), .val (.int tb), .val (.int cb), .val (.int (Int32.ofNat k)), .val (.int (Int32.ofNat (own_a so n))), .val (.int (Int32.ofNat (own_t tO))), .val r, .val (.int ng), .val (.int sd), .val (.int td), .val (.int ok), .unset, .unset, .unset, .unset] [(.int sd), (.int (Int32.ofNat n))])
                          have j475 : ∀ (cn : Nat) (Tq : State) (Lq : List Loc) (Xq : Stand p l e room_1 s m #[(.long q1), (.int p2), (.int p3), (.int p4), (.int p5)] below meth c Tq Lq 3 41) (Nq : Fr n0 Lq) (eq : Tq.heap = T24.heap) (hcn : cn = own_cnt tb so sb tO n), own_Go p e below (own_K (fun v h L => v = some (.int 1) ∧ Fr n0 L) s room_1.cells room_1.slots) Tq (mkF m 475 #[.val (.long q1), .second, .val (.int p2), .val (.int p3), .val (.int p4), .val (.int p5), .val (.ref b1), .val (.long mm), .second, .val (.ref b21), .val (.int (Int32.ofNat n)), .val (.int (Int32.ofNat (20 - n))), .val (.int sm), .val (.int so), .val (.int tO), .val (.int wo), .val (.int sb), .val (.int tb), .val (.int cb), .val (.int (Int32.ofNat k)), .val (.int (Int32.ofNat (own_a so n))), .val (.int (Int32.ofNat (own_t tO))), .val r, .val (.int ng), .val (.int sd), .val (.int td), .val (.int ok), .unset, .unset, .unset, .unset] [(.int (Int32.ofNat cn))]) := by
                            intro cn Tq Lq Xq Nq eq hcn
                            have hcnn : n ≤ cn ∧ cn ≤ n + 2 := by rw [hcn]; unfold own_cnt; constructor <;> (split <;> split <;> omega)
                            refine own_go (fun t_ k_ => XS.istore Xq.here hx rfl (hb hby at_475) rfl (l' := #[.val (.long q1), .second, .val (.int p2), .val (.int p3), .val (.int p4), .val (.int p5), .val (.ref b1), .val (.long mm), .second, .val (.ref b21), .val (.int (Int32.ofNat n)), .val (.int (Int32.ofNat (20 - n))), .val (.int sm), .val (.int so), .val (.int tO), .val (.int wo), .val (.int sb), .val (.int tb), .val (.int cb), .val (.int (Int32.ofNat k)), .val (.int (Int32.ofNat (own_a so n))), .val (.int (Int32.ofNat (own_t tO))), .val r, .val (.int ng), .val (.int sd), .val (.int td), .val (.int ok), .val (.int (Int32.ofNat cn)), .unset, .unset, .unset]) rfl k_) ?_
                            show own_Go p e below _ Tq (mkF m 477 #[.val (.long q1), .second, .val (.int p2), .val (.int p3), .val (.int p4), .val (.int p5), .val (.ref b1), .val (.long mm), .second, .val (.ref b21), .val (.int (Int32.ofNat n)), .val (.int (Int32.ofNat (20 - n))), .val (.int sm), .val (.int so), .val (.int tO), .val (.int wo), .val (.int sb), .val (.int tb), .val (.int cb), .val (.int (Int32.ofNat k)), .val (.int (Int32.ofNat (own_a so n))), .val (.int (Int32.ofNat (own_t tO))), .val r, .val (.int ng), .val (.int sd), .val (.int td), .val (.int ok), .val (.int (Int32.ofNat cn)), .unset, .unset, .unset] [])
                            refine own_go (fun t_ k_ => XS.iload Xq.here hx rfl (hb hby at_477) rfl k_) ?_
                            show own_Go p e below _ Tq (mkF m 479 #[.val (.long q1), .second, .val (.int p2), .val (.int p3), .val (.int p4), .val (.int p5), .val (.ref b1), .val (.long mm), .second, .val (.ref b21), .val (.int (Int32.ofNat n)), .val (.int (Int32.ofNat (20 - n))), .val (.int sm), .val (.int so), .val (.int tO), .val (.int wo), .val (.int sb), .val (.int tb), .val (.int cb), .val (.int (Int32.ofNat k)), .val (.int (Int32.ofNat (own_a so n))), .val (.int (Int32.ofNat (own_t tO))), .val r, .val (.int ng), .val (.int sd), .val (.int td), .val (.int ok), .val (.int (Int32.ofNat cn)), .unset, .unset, .unset] [(.int ok)])
                            by_cases h479 : ok = 0
                            · show own_Go p e below _ Tq (mkF m 479 #[.val (.long q1), .second, .val (.int p2), .val (.int p3), .val (.int p4), .val (.int p5), .val (.ref b1), .val (.long mm), .second, .val (.ref b21), .val (.int (Int32.ofNat n)), .val (.int (Int32.ofNat (20 - n))), .val (.int sm), .val (.int so), .val (.int tO), .val (.int wo), .val (.int sb), .val (.int tb), .val (.int cb), .val (.int (Int32.ofNat k)), .val (.int (Int32.ofNat (own_a so n))), .val (.int (Int32.ofNat (own_t tO))), .val r, .val (.int ng), .val (.int sd), .val (.int td), .val (.int ok), .val (.int (Int32.ofNat cn)), .unset, .unset, .unset] [(.int ok)])
                              refine own_go (fun t_ k_ => XS.ifYes Xq.here hx rfl (pc0 := 479) (pc' := 494) rfl (hb hby at_479) rfl (XT.i0_eq_t h479) (by decide) (by decide) k_) ?_
                              show own_Go p e below _ Tq (mkF m 494 #[.val (.long q1), .second, .val (.int p2), .val (.int p3), .val (.int p4), .val (.int p5), .val (.ref b1), .val (.long mm), .second, .val (.ref b21), .val (.int (Int32.ofNat n)), .val (.int (Int32.ofNat (20 - n))), .val (.int sm), .val (.int so), .val (.int tO), .val (.int wo), .val (.int sb), .val (.int tb), .val (.int cb), .val (.int (Int32.ofNat k)), .val (.int (Int32.ofNat (own_a so n))), .val (.int (Int32.ofNat (own_t tO))), .val r, .val (.int ng), .val (.int sd), .val (.int td), .val (.int ok), .val (.int (Int32.ofNat cn)), .unset, .unset, .unset] [])
                              obtain rfl : r = .null := hrr.elim (fun z => absurd z.1 (fun y => hok.mp h479 y.1)) (fun z => z.2)
                              show own_Go p e below _ Tq (mkF m 494 #[.val (.long q1), .second, .val (.int p2), .val (.int p3), .val (.int p4), .val (.int p5), .val (.ref b1), .val (.long mm), .second, .val (.ref b21), .val (.int (Int32.ofNat n)), .val (.int (Int32.ofNat (20 - n))), .val (.int sm), .val (.int so), .val (.int tO), .val (.int wo), .val (.int sb), .val (.int tb), .val (.int cb), .val (.int (Int32.ofNat k)), .val (.int (Int32.ofNat (own_a so n))), .val (.int (Int32.ofNat (own_t tO))), .val .null, .val (.int ng), .val (.int sd), .val (.int td), .val (.int ok), .val (.int (Int32.ofNat cn)), .unset, .unset, .unset] [])
                              refine own_go (fun t_ k_ => XS.aload Xq.here hx rfl (hb hby at_494) rfl rfl k_) ?_
                              show own_Go p e below _ Tq (mkF m 496 #[.val (.long q1), .second, .val (.int p2), .val (.int p3), .val (.int p4), .val (.int p5), .val (.ref b1), .val (.long mm), .second, .val (.ref b21), .val (.int (Int32.ofNat n)), .val (.int (Int32.ofNat (20 - n))), .val (.int sm), .val (.int so), .val (.int tO), .val (.int wo), .val (.int sb), .val (.int tb), .val (.int cb), .val (.int (Int32.ofNat k)), .val (.int (Int32.ofNat (own_a so n))), .val (.int (Int32.ofNat (own_t tO))), .val .null, .val (.int ng), .val (.int sd), .val (.int td), .val (.int ok), .val (.int (Int32.ofNat cn)), .unset, .unset, .unset] [.null])
                              refine own_go (fun t_ k_ => XS.ifnonnullNo Xq.here hx rfl (hb hby at_496) rfl k_) ?_
                              show own_Go p e below _ Tq (mkF m 499 #[.val (.long q1), .second, .val (.int p2), .val (.int p3), .val (.int p4), .val (.int p5), .val (.ref b1), .val (.long mm), .second, .val (.ref b21), .val (.int (Int32.ofNat n)), .val (.int (Int32.ofNat (20 - n))), .val (.int sm), .val (.int so), .val (.int tO), .val (.int wo), .val (.int sb), .val (.int tb), .val (.int cb), .val (.int (Int32.ofNat k)), .val (.int (Int32.ofNat (own_a so n))), .val (.int (Int32.ofNat (own_t tO))), .val .null, .val (.int ng), .val (.int sd), .val (.int td), .val (.int ok), .val (.int (Int32.ofNat cn)), .unset, .unset, .unset] [])
                              refine own_go (fun t_ k_ => XS.iconst Xq.here hx rfl (hb hby at_499) k_) ?_
                              show own_Go p e below _ Tq (mkF m 500 #[.val (.long q1), .second, .val (.int p2), .val (.int p3), .val (.int p4), .val (.int p5), .val (.ref b1), .val (.long mm), .second, .val (.ref b21), .val (.int (Int32.ofNat n)), .val (.int (Int32.ofNat (20 - n))), .val (.int sm), .val (.int so), .val (.int tO), .val (.int wo), .val (.int sb), .val (.int tb), .val (.int cb), .val (.int (Int32.ofNat k)), .val (.int (Int32.ofNat (own_a so n))), .val (.int (Int32.ofNat (own_t tO))), .val .null, .val (.int ng), .val (.int sd), .val (.int td), .val (.int ok), .val (.int (Int32.ofNat cn)), .unset, .unset, .unset] [(.int (1 : Int32))])
                              refine own_go (fun t_ k_ => XS.goto Xq.here hx rfl (pc0 := 500) (pc' := 504) rfl (hb hby at_500) (by decide) (by decide) k_) ?_
                              show own_Go p e below _ Tq (mkF m 504 #[.val (.long q1), .second, .val (.int p2), .val (.int p3), .val (.int p4), .val (.int p5), .val (.ref b1), .val (.long mm), .second, .val (.ref b21), .val (.int (Int32.ofNat n)), .val (.int (Int32.ofNat (20 - n))), .val (.int sm), .val (.int so), .val (.int tO), .val (.int wo), .val (.int sb), .val (.int tb), .val (.int cb), .val (.int (Int32.ofNat k)), .val (.int (Int32.ofNat (own_a so n))), .val (.int (Int32.ofNat (own_t tO))), .val .null, .val (.int ng), .val (.int sd), .val (.int td), .val (.int ok), .val (.int (Int32.ofNat cn)), .unset, .unset, .unset] [(.int (1 : Int32))])
                              refine own_retZ Xq hx hlk hret (hb hby at_504) (Or.inr rfl) (by decide) (by decide) ?_
                              exact ⟨rfl, Nq⟩
                            · show own_Go p e below _ Tq (mkF m 479 #[.val (.long q1), .second, .val (.int p2), .val (.int p3), .val (.int p4), .val (.int p5), .val (.ref b1), .val (.long mm), .second, .val (.ref b21), .val (.int (Int32.ofNat n)), .val (.int (Int32.ofNat (20 - n))), .val (.int sm), .val (.int so), .val (.int tO), .val (.int wo), .val (.int sb), .val (.int tb), .val (.int cb), .val (.int (Int32.ofNat k)), .val (.int (Int32.ofNat (own_a so n))), .val (.int (Int32.ofNat (own_t tO))), .val r, .val (.int ng), .val (.int sd), .val (.int td), .val (.int ok), .val (.int (Int32.ofNat cn)), .unset, .unset, .unset] [(.int ok)])
                              refine own_go (fun t_ k_ => XS.ifNo Xq.here hx rfl (hb hby at_479) rfl (XT.i0_eq_f h479) k_) ?_
                              show own_Go p e below _ Tq (mkF m 482 #[.val (.long q1), .second, .val (.int p2), .val (.int p3), .val (.int p4), .val (.int p5), .val (.ref b1), .val (.long mm), .second, .val (.ref b21), .val (.int (Int32.ofNat n)), .val (.int (Int32.ofNat (20 - n))), .val (.int sm), .val (.int so), .val (.int tO), .val (.int wo), .val (.int sb), .val (.int tb), .val (.int cb), .val (.int (Int32.ofNat k)), .val (.int (Int32.ofNat (own_a so n))), .val (.int (Int32.ofNat (own_t tO))), .val r, .val (.int ng), .val (.int sd), .val (.int td), .val (.int ok), .val (.int (Int32.ofNat cn)), .unset, .unset, .unset] [])
                              refine own_go (fun t_ k_ => XS.iload Xq.here hx rfl (hb hby at_482) rfl k_) ?_
                              show own_Go p e below _ Tq (mkF m 484 #[.val (.long q1), .second, .val (.int p2), .val (.int p3), .val (.int p4), .val (.int p5), .val (.ref b1), .val (.long mm), .second, .val (.ref b21), .val (.int (Int32.ofNat n)), .val (.int (Int32.ofNat (20 - n))), .val (.int sm), .val (.int so), .val (.int tO), .val (.int wo), .val (.int sb), .val (.int tb), .val (.int cb), .val (.int (Int32.ofNat k)), .val (.int (Int32.ofNat (own_a so n))), .val (.int (Int32.ofNat (own_t tO))), .val r, .val (.int ng), .val (.int sd), .val (.int td), .val (.int ok), .val (.int (Int32.ofNat cn)), .unset, .unset, .unset] [(.int (Int32.ofNat cn))])
                              by_cases h484 : cn = 0
                              · show own_Go p e below _ Tq (mkF m 484 #[.val (.long q1), .second, .val (.int p2), .val (.int p3), .val (.int p4), .val (.int p5), .val (.ref b1), .val (.long mm), .second, .val (.ref b21), .val (.int (Int32.ofNat n)), .val (.int (Int32.ofNat (20 - n))), .val (.int sm), .val (.int so), .val (.int tO), .val (.int wo), .val (.int sb), .val (.int tb), .val (.int cb), .val (.int (Int32.ofNat k)), .val (.int (Int32.ofNat (own_a so n))), .val (.int (Int32.ofNat (own_t tO))), .val r, .val (.int ng), .val (.int sd), .val (.int td), .val (.int ok), .val (.int (Int32.ofNat cn)), .unset, .unset, .unset] [(.int (Int32.ofNat cn))])
                                refine own_go (fun t_ k_ => XS.ifYes Xq.here hx rfl (pc0 := 484) (pc' := 494) rfl (hb hby at_484) rfl (XT.i0_eq_t ((own_oEq (b := 0) (by omega) (by omega)).mpr h484)) (by decide) (by decide) k_) ?_
                                show own_Go p e below _ Tq (mkF m 494 #[.val (.long q1), .second, .val (.int p2), .val (.int p3), .val (.int p4), .val (.int p5), .val (.ref b1), .val (.long mm), .second, .val (.ref b21), .val (.int (Int32.ofNat n)), .val (.int (Int32.ofNat (20 - n))), .val (.int sm), .val (.int so), .val (.int tO), .val (.int wo), .val (.int sb), .val (.int tb), .val (.int cb), .val (.int (Int32.ofNat k)), .val (.int (Int32.ofNat (own_a so n))), .val (.int (Int32.ofNat (own_t tO))), .val r, .val (.int ng), .val (.int sd), .val (.int td), .val (.int ok), .val (.int (Int32.ofNat cn)), .unset, .unset, .unset] [])
                                obtain rfl : r = .null := hrr.elim (fun z => absurd z.1 (fun y => by have := y.2.1; omega)) (fun z => z.2)
                                show own_Go p e below _ Tq (mkF m 494 #[.val (.long q1), .second, .val (.int p2), .val (.int p3), .val (.int p4), .val (.int p5), .val (.ref b1), .val (.long mm), .second, .val (.ref b21), .val (.int (Int32.ofNat n)), .val (.int (Int32.ofNat (20 - n))), .val (.int sm), .val (.int so), .val (.int tO), .val (.int wo), .val (.int sb), .val (.int tb), .val (.int cb), .val (.int (Int32.ofNat k)), .val (.int (Int32.ofNat (own_a so n))), .val (.int (Int32.ofNat (own_t tO))), .val .null, .val (.int ng), .val (.int sd), .val (.int td), .val (.int ok), .val (.int (Int32.ofNat cn)), .unset, .unset, .unset] [])
                                refine own_go (fun t_ k_ => XS.aload Xq.here hx rfl (hb hby at_494) rfl rfl k_) ?_
                                show own_Go p e below _ Tq (mkF m 496 #[.val (.long q1), .second, .val (.int p2), .val (.int p3), .val (.int p4), .val (.int p5), .val (.ref b1), .val (.long mm), .second, .val (.ref b21), .val (.int (Int32.ofNat n)), .val (.int (Int32.ofNat (20 - n))), .val (.int sm), .val (.int so), .val (.int tO), .val (.int wo), .val (.int sb), .val (.int tb), .val (.int cb), .val (.int (Int32.ofNat k)), .val (.int (Int32.ofNat (own_a so n))), .val (.int (Int32.ofNat (own_t tO))), .val .null, .val (.int ng), .val (.int sd), .val (.int td), .val (.int ok), .val (.int (Int32.ofNat cn)), .unset, .unset, .unset] [.null])
                                refine own_go (fun t_ k_ => XS.ifnonnullNo Xq.here hx rfl (hb hby at_496) rfl k_) ?_
                                show own_Go p e below _ Tq (mkF m 499 #[.val (.long q1), .second, .val (.int p2), .val (.int p3), .val (.int p4), .val (.int p5), .val (.ref b1), .val (.long mm), .second, .val (.ref b21), .val (.int (Int32.ofNat n)), .val (.int (Int32.ofNat (20 - n))), .val (.int sm), .val (.int so), .val (.int tO), .val (.int wo), .val (.int sb), .val (.int tb), .val (.int cb), .val (.int (Int32.ofNat k)), .val (.int (Int32.ofNat (own_a so n))), .val (.int (Int32.ofNat (own_t tO))), .val .null, .val (.int ng), .val (.int sd), .val (.int td), .val (.int ok), .val (.int (Int32.ofNat cn)), .unset, .unset, .unset] [])
                                refine own_go (fun t_ k_ => XS.iconst Xq.here hx rfl (hb hby at_499) k_) ?_
                                show own_Go p e below _ Tq (mkF m 500 #[.val (.long q1), .second, .val (.int p2), .val (.int p3), .val (.int p4), .val (.int p5), .val (.ref b1), .val (.long mm), .second, .val (.ref b21), .val (.int (Int32.ofNat n)), .val (.int (Int32.ofNat (20 - n))), .val (.int sm), .val (.int so), .val (.int tO), .val (.int wo), .val (.int sb), .val (.int tb), .val (.int cb), .val (.int (Int32.ofNat k)), .val (.int (Int32.ofNat (own_a so n))), .val (.int (Int32.ofNat (own_t tO))), .val .null, .val (.int ng), .val (.int sd), .val (.int td), .val (.int ok), .val (.int (Int32.ofNat cn)), .unset, .unset, .unset] [(.int (1 : Int32))])
                                refine own_go (fun t_ k_ => XS.goto Xq.here hx rfl (pc0 := 500) (pc' := 504) rfl (hb hby at_500) (by decide) (by decide) k_) ?_
                                show own_Go p e below _ Tq (mkF m 504 #[.val (.long q1), .second, .val (.int p2), .val (.int p3), .val (.int p4), .val (.int p5), .val (.ref b1), .val (.long mm), .second, .val (.ref b21), .val (.int (Int32.ofNat n)), .val (.int (Int32.ofNat (20 - n))), .val (.int sm), .val (.int so), .val (.int tO), .val (.int wo), .val (.int sb), .val (.int tb), .val (.int cb), .val (.int (Int32.ofNat k)), .val (.int (Int32.ofNat (own_a so n))), .val (.int (Int32.ofNat (own_t tO))), .val .null, .val (.int ng), .val (.int sd), .val (.int td), .val (.int ok), .val (.int (Int32.ofNat cn)), .unset, .unset, .unset] [(.int (1 : Int32))])
                                refine own_retZ Xq hx hlk hret (hb hby at_504) (Or.inr rfl) (by decide) (by decide) ?_
                                exact ⟨rfl, Nq⟩
                              · show own_Go p e below _ Tq (mkF m 484 #[.val (.long q1), .second, .val (.int p2), .val (.int p3), .val (.int p4), .val (.int p5), .val (.ref b1), .val (.long mm), .second, .val (.ref b21), .val (.int (Int32.ofNat n)), .val (.int (Int32.ofNat (20 - n))), .val (.int sm), .val (.int so), .val (.int tO), .val (.int wo), .val (.int sb), .val (.int tb), .val (.int cb), .val (.int (Int32.ofNat k)), .val (.int (Int32.ofNat (own_a so n))), .val (.int (Int32.ofNat (own_t tO))), .val r, .val (.int ng), .val (.int sd), .val (.int td), .val (.int ok), .val (.int (Int32.ofNat cn)), .unset, .unset, .unset] [(.int (Int32.ofNat cn))])
                                refine own_go (fun t_ k_ => XS.ifNo Xq.here hx rfl (hb hby at_484) rfl (XT.i0_eq_f (fun q => h484 ((own_oEq (b := 0) (by omega) (by omega)).mp q))) k_) ?_
                                show own_Go p e below _ Tq (mkF m 487 #[.val (.long q1), .second, .val (.int p2), .val (.int p3), .val (.int p4), .val (.int p5), .val (.ref b1), .val (.long mm), .second, .val (.ref b21), .val (.int (Int32.ofNat n)), .val (.int (Int32.ofNat (20 - n))), .val (.int sm), .val (.int so), .val (.int tO), .val (.int wo), .val (.int sb), .val (.int tb), .val (.int cb), .val (.int (Int32.ofNat k)), .val (.int (Int32.ofNat (own_a so n))), .val (.int (Int32.ofNat (own_t tO))), .val r, .val (.int ng), .val (.int sd), .val (.int td), .val (.int ok), .val (.int (Int32.ofNat cn)), .unset, .unset, .unset] [])
                                refine own_go (fun t_ k_ => XS.iload Xq.here hx rfl (hb hby at_487) rfl k_) ?_
                                show own_Go p e below _ Tq (mkF m 489 #[.val (.long q1), .second, .val (.int p2), .val (.int p3), .val (.int p4), .val (.int p5), .val (.ref b1), .val (.long mm), .second, .val (.ref b21), .val (.int (Int32.ofNat n)), .val (.int (Int32.ofNat (20 - n))), .val (.int sm), .val (.int so), .val (.int tO), .val (.int wo), .val (.int sb), .val (.int tb), .val (.int cb), .val (.int (Int32.ofNat k)), .val (.int (Int32.ofNat (own_a so n))), .val (.int (Int32.ofNat (own_t tO))), .val r, .val (.int ng), .val (.int sd), .val (.int td), .val (.int ok), .val (.int (Int32.ofNat cn)), .unset, .unset, .unset] [(.int (Int32.ofNat cn))])
                                refine own_go (fun t_ k_ => XS.bipush Xq.here hx rfl (hb hby at_489) k_) ?_
                                show own_Go p e below _ Tq (mkF m 491 #[.val (.long q1), .second, .val (.int p2), .val (.int p3), .val (.int p4), .val (.int p5), .val (.ref b1), .val (.long mm), .second, .val (.ref b21), .val (.int (Int32.ofNat n)), .val (.int (Int32.ofNat (20 - n))), .val (.int sm), .val (.int so), .val (.int tO), .val (.int wo), .val (.int sb), .val (.int tb), .val (.int cb), .val (.int (Int32.ofNat k)), .val (.int (Int32.ofNat (own_a so n))), .val (.int (Int32.ofNat (own_t tO))), .val r, .val (.int ng), .val (.int sd), .val (.int td), .val (.int ok), .val (.int (Int32.ofNat cn)), .unset, .unset, .unset] [(.int (18 : Int32)), (.int (Int32.ofNat cn))])
                                by_cases h491 : 18 < cn
                                · show own_Go p e below _ Tq (mkF m 491 #[.val (.long q1), .second, .val (.int p2), .val (.int p3), .val (.int p4), .val (.int p5), .val (.ref b1), .val (.long mm), .second, .val (.ref b21), .val (.int (Int32.ofNat n)), .val (.int (Int32.ofNat (20 - n))), .val (.int sm), .val (.int so), .val (.int tO), .val (.int wo), .val (.int sb), .val (.int tb), .val (.int cb), .val (.int (Int32.ofNat k)), .val (.int (Int32.ofNat (own_a so n))), .val (.int (Int32.ofNat (own_t tO))), .val r, .val (.int ng), .val (.int sd), .val (.int td), .val (.int ok), .val (.int (Int32.ofNat cn)), .unset, .unset, .unset] [(.int (18 : Int32)), (.int (Int32.ofNat cn))])
                                  refine own_go (fun t_ k_ => XS.icmpNo Xq.here hx rfl (hb hby at_491) rfl (XT.ii_le_f ((own_oLt (a := 18) (by omega) (by omega)).mpr h491)) k_) ?_
                                  show own_Go p e below _ Tq (mkF m 494 #[.val (.long q1), .second, .val (.int p2), .val (.int p3), .val (.int p4), .val (.int p5), .val (.ref b1), .val (.long mm), .second, .val (.ref b21), .val (.int (Int32.ofNat n)), .val (.int (Int32.ofNat (20 - n))), .val (.int sm), .val (.int so), .val (.int tO), .val (.int wo), .val (.int sb), .val (.int tb), .val (.int cb), .val (.int (Int32.ofNat k)), .val (.int (Int32.ofNat (own_a so n))), .val (.int (Int32.ofNat (own_t tO))), .val r, .val (.int ng), .val (.int sd), .val (.int td), .val (.int ok), .val (.int (Int32.ofNat cn)), .unset, .unset, .unset] [])
                                  obtain rfl : r = .null := hrr.elim (fun z => absurd z.1 (fun y => by have := y.2.2; omega)) (fun z => z.2)
                                  show own_Go p e below _ Tq (mkF m 494 #[.val (.long q1), .second, .val (.int p2), .val (.int p3), .val (.int p4), .val (.int p5), .val (.ref b1), .val (.long mm), .second, .val (.ref b21), .val (.int (Int32.ofNat n)), .val (.int (Int32.ofNat (20 - n))), .val (.int sm), .val (.int so), .val (.int tO), .val (.int wo), .val (.int sb), .val (.int tb), .val (.int cb), .val (.int (Int32.ofNat k)), .val (.int (Int32.ofNat (own_a so n))), .val (.int (Int32.ofNat (own_t tO))), .val .null, .val (.int ng), .val (.int sd), .val (.int td), .val (.int ok), .val (.int (Int32.ofNat cn)), .unset, .unset, .unset] [])
                                  refine own_go (fun t_ k_ => XS.aload Xq.here hx rfl (hb hby at_494) rfl rfl k_) ?_
                                  show own_Go p e below _ Tq (mkF m 496 #[.val (.long q1), .second, .val (.int p2), .val (.int p3), .val (.int p4), .val (.int p5), .val (.ref b1), .val (.long mm), .second, .val (.ref b21), .val (.int (Int32.ofNat n)), .val (.int (Int32.ofNat (20 - n))), .val (.int sm), .val (.int so), .val (.int tO), .val (.int wo), .val (.int sb), .val (.int tb), .val (.int cb), .val (.int (Int32.ofNat k)), .val (.int (Int32.ofNat (own_a so n))), .val (.int (Int32.ofNat (own_t tO))), .val .null, .val (.int ng), .val (.int sd), .val (.int td), .val (.int ok), .val (.int (Int32.ofNat cn)), .unset, .unset, .unset] [.null])
                                  refine own_go (fun t_ k_ => XS.ifnonnullNo Xq.here hx rfl (hb hby at_496) rfl k_) ?_
                                  show own_Go p e below _ Tq (mkF m 499 #[.val (.long q1), .second, .val (.int p2), .val (.int p3), .val (.int p4), .val (.int p5), .val (.ref b1), .val (.long mm), .second, .val (.ref b21), .val (.int (Int32.ofNat n)), .val (.int (Int32.ofNat (20 - n))), .val (.int sm), .val (.int so), .val (.int tO), .val (.int wo), .val (.int sb), .val (.int tb), .val (.int cb), .val (.int (Int32.ofNat k)), .val (.int (Int32.ofNat (own_a so n))), .val (.int (Int32.ofNat (own_t tO))), .val .null, .val (.int ng), .val (.int sd), .val (.int td), .val (.int ok), .val (.int (Int32.ofNat cn)), .unset, .unset, .unset] [])
                                  refine own_go (fun t_ k_ => XS.iconst Xq.here hx rfl (hb hby at_499) k_) ?_
                                  show own_Go p e below _ Tq (mkF m 500 #[.val (.long q1), .second, .val (.int p2), .val (.int p3), .val (.int p4), .val (.int p5), .val (.ref b1), .val (.long mm), .second, .val (.ref b21), .val (.int (Int32.ofNat n)), .val (.int (Int32.ofNat (20 - n))), .val (.int sm), .val (.int so), .val (.int tO), .val (.int wo), .val (.int sb), .val (.int tb), .val (.int cb), .val (.int (Int32.ofNat k)), .val (.int (Int32.ofNat (own_a so n))), .val (.int (Int32.ofNat (own_t tO))), .val .null, .val (.int ng), .val (.int sd), .val (.int td), .val (.int ok), .val (.int (Int32.ofNat cn)), .unset, .unset, .unset] [(.int (1 : Int32))])
                                  refine own_go (fun t_ k_ => XS.goto Xq.here hx rfl (pc0 := 500) (pc' := 504) rfl (hb hby at_500) (by decide) (by decide) k_) ?_
                                  show own_Go p e below _ Tq (mkF m 504 #[.val (.long q1), .second, .val (.int p2), .val (.int p3), .val (.int p4), .val (.int p5), .val (.ref b1), .val (.long mm), .second, .val (.ref b21), .val (.int (Int32.ofNat n)), .val (.int (Int32.ofNat (20 - n))), .val (.int sm), .val (.int so), .val (.int tO), .val (.int wo), .val (.int sb), .val (.int tb), .val (.int cb), .val (.int (Int32.ofNat k)), .val (.int (Int32.ofNat (own_a so n))), .val (.int (Int32.ofNat (own_t tO))), .val .null, .val (.int ng), .val (.int sd), .val (.int td), .val (.int ok), .val (.int (Int32.ofNat cn)), .unset, .unset, .unset] [(.int (1 : Int32))])
                                  refine own_retZ Xq hx hlk hret (hb hby at_504) (Or.inr rfl) (by decide) (by decide) ?_
                                  exact ⟨rfl, Nq⟩
                                · show own_Go p e below _ Tq (mkF m 491 #[.val (.long q1), .second, .val (.int p2), .val (.int p3), .val (.int p4), .val (.int p5), .val (.ref b1), .val (.long mm), .second, .val (.ref b21), .val (.int (Int32.ofNat n)), .val (.int (Int32.ofNat (20 - n))), .val (.int sm), .val (.int so), .val (.int tO), .val (.int wo), .val (.int sb), .val (.int tb), .val (.int cb), .val (.int (Int32.ofNat k)), .val (.int (Int32.ofNat (own_a so n))), .val (.int (Int32.ofNat (own_t tO))), .val r, .val (.int ng), .val (.int sd), .val (.int td), .val (.int ok), .val (.int (Int32.ofNat cn)), .unset, .unset, .unset] [(.int (18 : Int32)), (.int (Int32.ofNat cn))])
                                  refine own_go (fun t_ k_ => XS.icmpYes Xq.here hx rfl (pc0 := 491) (pc' := 505) rfl (hb hby at_491) rfl (XT.ii_le_t (fun q => h491 ((own_oLt (a := 18) (by omega) (by omega)).mp q))) (by decide) (by decide) k_) ?_
                                  show own_Go p e below _ Tq (mkF m 505 #[.val (.long q1), .second, .val (.int p2), .val (.int p3), .val (.int p4), .val (.int p5), .val (.ref b1), .val (.long mm), .second, .val (.ref b21), .val (.int (Int32.ofNat n)), .val (.int (Int32.ofNat (20 - n))), .val (.int sm), .val (.int so), .val (.int tO), .val (.int wo), .val (.int sb), .val (.int tb), .val (.int cb), .val (.int (Int32.ofNat k)), .val (.int (Int32.ofNat (own_a so n))), .val (.int (Int32.ofNat (own_t tO))), .val r, .val (.int ng), .val (.int sd), .val (.int td), .val (.int ok), .val (.int (Int32.ofNat cn)), .unset, .unset, .unset] [])
                                  have hOK : own_OK tb wo cb so sb tO := Classical.byContradiction fun y => h479 (hok.mpr y)
                                  have hc0 : 0 < own_cnt tb so sb tO n := by omega
                                  have hc18 : own_cnt tb so sb tO n ≤ 18 := by omega
                                  have hn18 : n ≤ 18 := by omega
                                  obtain ⟨-, u, rfl, Eu, Fu⟩ := hrr.resolve_right (fun z => z.1 ⟨hOK, hc0, hc18⟩)
                                  show own_Go p e below _ Tq (mkF m 505 #[.val (.long q1), .second, .val (.int p2), .val (.int p3), .val (.int p4), .val (.int p5), .val (.ref b1), .val (.long mm), .second, .val (.ref b21), .val (.int (Int32.ofNat n)), .val (.int (Int32.ofNat (20 - n))), .val (.int sm), .val (.int so), .val (.int tO), .val (.int wo), .val (.int sb), .val (.int tb), .val (.int cb), .val (.int (Int32.ofNat k)), .val (.int (Int32.ofNat (own_a so n))), .val (.int (Int32.ofNat (own_t tO))), .val (.ref u), .val (.int ng), .val (.int sd), .val (.int td), .val (.int ok), .val (.int (Int32.ofNat cn)), .unset, .unset, .unset] [])
                                  refine own_go (fun t_ k_ => XS.lload Xq.here hx rfl (hb hby at_505) rfl k_) ?_
                                  show own_Go p e below _ Tq (mkF m 507 #[.val (.long q1), .second, .val (.int p2), .val (.int p3), .val (.int p4), .val (.int p5), .val (.ref b1), .val (.long mm), .second, .val (.ref b21), .val (.int (Int32.ofNat n)), .val (.int (Int32.ofNat (20 - n))), .val (.int sm), .val (.int so), .val (.int tO), .val (.int wo), .val (.int sb), .val (.int tb), .val (.int cb), .val (.int (Int32.ofNat k)), .val (.int (Int32.ofNat (own_a so n))), .val (.int (Int32.ofNat (own_t tO))), .val (.ref u), .val (.int ng), .val (.int sd), .val (.int td), .val (.int ok), .val (.int (Int32.ofNat cn)), .unset, .unset, .unset] [(.long mm)])
                                  refine own_go (fun t_ k_ => XS.aload Xq.here hx rfl (hb hby at_507) rfl rfl k_) ?_
                                  show own_Go p e below _ Tq (mkF m 509 #[.val (.long q1), .second, .val (.int p2), .val (.int p3), .val (.int p4), .val (.int p5), .val (.ref b1), .val (.long mm), .second, .val (.ref b21), .val (.int (Int32.ofNat n)), .val (.int (Int32.ofNat (20 - n))), .val (.int sm), .val (.int so), .val (.int tO), .val (.int wo), .val (.int sb), .val (.int tb), .val (.int cb), .val (.int (Int32.ofNat k)), .val (.int (Int32.ofNat (own_a so n))), .val (.int (Int32.ofNat (own_t tO))), .val (.ref u), .val (.int ng), .val (.int sd), .val (.int td), .val (.int ok), .val (.int (Int32.ofNat cn)), .unset, .unset, .unset] [(.ref b1), (.long mm)])
                                  refine own_go (fun t_ k_ => XS.iload Xq.here hx rfl (hb hby at_509) rfl k_) ?_
                                  show own_Go p e below _ Tq (mkF m 511 #[.val (.long q1), .second, .val (.int p2), .val (.int p3), .val (.int p4), .val (.int p5), .val (.ref b1), .val (.long mm), .second, .val (.ref b21), .val (.int (Int32.ofNat n)), .val (.int (Int32.ofNat (20 - n))), .val (.int sm), .val (.int so), .val (.int tO), .val (.int wo), .val (.int sb), .val (.int tb), .val (.int cb), .val (.int (Int32.ofNat k)), .val (.int (Int32.ofNat (own_a so n))), .val (.int (Int32.ofNat (own_t tO))), .val (.ref u), .val (.int ng), .val (.int sd), .val (.int td), .val (.int ok), .val (.int (Int32.ofNat cn)), .unset, .unset, .unset] [(.int (Int32.ofNat n)), (.ref b1), (.long mm)])
                                  refine own_go (own_ldLA Xq hx hZ eq (Ls := #[.val (.long q1), .second, .val (.int p2), .val (.int p3), .val (.int p4), .val (.int p5), .val (.ref b1), .val (.long mm), .second, .val (.ref b21), .val (.int (Int32.ofNat n)), .val (.int (Int32.ofNat (20 - n))), .val (.int sm), .val (.int so), .val (.int tO), .val (.int wo), .val (.int sb), .val (.int tb), .val (.int cb), .val (.int (Int32.ofNat k)), .val (.int (Int32.ofNat (own_a so n))), .val (.int (Int32.ofNat (own_t tO))), .val (.ref u), .val (.int ng), .val (.int sd), .val (.int td), .val (.int ok), .val (.int (Int32.ofNat cn)), .unset, .unset, .unset]) (rest := [(.long mm)]) (Vte.keep K24 nin0) (by decide) n (by omega) (hb hby at_511)) ?_
                                  show own_Go p e below _ Tq (mkF m 512 #[.val (.long q1), .second, .val (.int p2), .val (.int p3), .val (.int p4), .val (.int p5), .val (.ref b1), .val (.long mm), .second, .val (.ref b21), .val (.int (Int32.ofNat n)), .val (.int (Int32.ofNat (20 - n))), .val (.int sm), .val (.int so), .val (.int tO), .val (.int wo), .val (.int sb), .val (.int tb), .val (.int cb), .val (.int (Int32.ofNat k)), .val (.int (Int32.ofNat (own_a so n))), .val (.int (Int32.ofNat (own_t tO))), .val (.ref u), .val (.int ng), .val (.int sd), .val (.int td), .val (.int ok), .val (.int (Int32.ofNat cn)), .unset, .unset, .unset] [(.long (own_ten n)), (.long mm)])
                                  refine own_go (fun t_ k_ => own_lrem Xq hx rfl (hb hby at_512) rfl (own_tenNe (by omega)) k_) ?_
                                  show own_Go p e below _ Tq (mkF m 513 #[.val (.long q1), .second, .val (.int p2), .val (.int p3), .val (.int p4), .val (.int p5), .val (.ref b1), .val (.long mm), .second, .val (.ref b21), .val (.int (Int32.ofNat n)), .val (.int (Int32.ofNat (20 - n))), .val (.int sm), .val (.int so), .val (.int tO), .val (.int wo), .val (.int sb), .val (.int tb), .val (.int cb), .val (.int (Int32.ofNat k)), .val (.int (Int32.ofNat (own_a so n))), .val (.int (Int32.ofNat (own_t tO))), .val (.ref u), .val (.int ng), .val (.int sd), .val (.int td), .val (.int ok), .val (.int (Int32.ofNat cn)), .unset, .unset, .unset] [(.long (mm % (own_ten n)))])
                                  refine own_go (fun t_ k_ => XS.lstore Xq.here hx rfl (hb hby at_513) rfl (l' := #[.val (.long q1), .second, .val (.int p2), .val (.int p3), .val (.int p4), .val (.int p5), .val (.ref b1), .val (.long mm), .second, .val (.ref b21), .val (.int (Int32.ofNat n)), .val (.int (Int32.ofNat (20 - n))), .val (.int sm), .val (.int so), .val (.int tO), .val (.int wo), .val (.int sb), .val (.int tb), .val (.int cb), .val (.int (Int32.ofNat k)), .val (.int (Int32.ofNat (own_a so n))), .val (.int (Int32.ofNat (own_t tO))), .val (.ref u), .val (.int ng), .val (.int sd), .val (.int td), .val (.int ok), .val (.int (Int32.ofNat cn)), .val (.long (mm % (own_ten n))), .second, .unset]) rfl k_) ?_
                                  show own_Go p e below _ Tq (mkF m 515 #[.val (.long q1), .second, .val (.int p2), .val (.int p3), .val (.int p4), .val (.int p5), .val (.ref b1), .val (.long mm), .second, .val (.ref b21), .val (.int (Int32.ofNat n)), .val (.int (Int32.ofNat (20 - n))), .val (.int sm), .val (.int so), .val (.int tO), .val (.int wo), .val (.int sb), .val (.int tb), .val (.int cb), .val (.int (Int32.ofNat k)), .val (.int (Int32.ofNat (own_a so n))), .val (.int (Int32.ofNat (own_t tO))), .val (.ref u), .val (.int ng), .val (.int sd), .val (.int td), .val (.int ok), .val (.int (Int32.ofNat cn)), .val (.long (mm % (own_ten n))), .second, .unset] [])
                                  refine own_go (fun t_ k_ => XS.iload Xq.here hx rfl (hb hby at_515) rfl k_) ?_
                                  show own_Go p e below _ Tq (mkF m 517 #[.val (.long q1), .second, .val (.int p2), .val (.int p3), .val (.int p4), .val (.int p5), .val (.ref b1), .val (.long mm), .second, .val (.ref b21), .val (.int (Int32.ofNat n)), .val (.int (Int32.ofNat (20 - n))), .val (.int sm), .val (.int so), .val (.int tO), .val (.int wo), .val (.int sb), .val (.int tb), .val (.int cb), .val (.int (Int32.ofNat k)), .val (.int (Int32.ofNat (own_a so n))), .val (.int (Int32.ofNat (own_t tO))), .val (.ref u), .val (.int ng), .val (.int sd), .val (.int td), .val (.int ok), .val (.int (Int32.ofNat cn)), .val (.long (mm % (own_ten n))), .second, .unset] [(.int wo)])
                                  have j557 : ∀ (d1 : Int64) (s30 : Slot) (Tr : State) (Lr : List Loc) (Xr : Stand p l e room_1 s m #[(.long q1), (.int p2), (.int p3), (.int p4), (.int p5)] below meth c Tr Lr 3 41) (Nr : Fr n0 Lr) (er : Tr.heap = T24.heap) (w1 : wo = 0 → d1 = mm % own_ten n) (w2 : wo ≠ 0 → d1 = mm % own_ten n + ((cb - 48).toInt64 - mm / own_ten (19 - k) % 10) * own_ten (19 - k)), own_Go p e below (own_K (fun v h L => v = some (.int 1) ∧ Fr n0 L) s room_1.cells room_1.slots) Tr (mkF m 557 #[.val (.long q1), .second, .val (.int p2), .val (.int p3), .val (.int p4), .val (.int p5), .val (.ref b1), .val (.long mm), .second, .val (.ref b21), .val (.int (Int32.ofNat n)), .val (.int (Int32.ofNat (20 - n))), .val (.int sm), .val (.int so), .val (.int tO), .val (.int wo), .val (.int sb), .val (.int tb), .val (.int cb), .val (.int (Int32.ofNat k)), .val (.int (Int32.ofNat (own_a so n))), .val (.int (Int32.ofNat (own_t tO))), .val (.ref u), .val (.int ng), .val (.int sd), .val (.int td), .val (.int ok), .val (.int (Int32.ofNat cn)), .val (.long d1), .second, s30] []) := by
                                    intro d1 s30 Tr Lr Xr Nr er w1 w2
                                    refine own_go (fun t_ k_ => XS.iload Xr.here hx rfl (hb hby at_557) rfl k_) ?_
                                    show own_Go p e below _ Tr (mkF m 559 #[.val (.long q1), .second, .val (.int p2), .val (.int p3), .val (.int p4), .val (.int p5), .val (.ref b1), .val (.long mm), .second, .val (.ref b21), .val (.int (Int32.ofNat n)), .val (.int (Int32.ofNat (20 - n))), .val (.int sm), .val (.int so), .val (.int tO), .val (.int wo), .val (.int sb), .val (.int tb), .val (.int cb), .val (.int (Int32.ofNat k)), .val (.int (Int32.ofNat (own_a so n))), .val (.int (Int32.ofNat (own_t tO))), .val (.ref u), .val (.int ng), .val (.int sd), .val (.int td), .val (.int ok), .val (.int (Int32.ofNat cn)), .val (.long d1), .second, s30] [(.int sd)])
                                    have j579 : ∀ (d2 : Int64) (Ts : State) (Ls : List Loc) (Xs : Stand p l e room_1 s m #[(.long q1), (.int p2), (.int p3), (.int p4), (.int p5)] below meth c Ts Ls 3 41) (Ns : Fr n0 Ls) (es : Ts.heap = T24.heap) (s1 : ¬ (so ≠ 0 ∧ own_dig sb) → d2 = d1) (s2 : (so ≠ 0 ∧ own_dig sb) → d2 = (sb - 48).toInt64 * own_ten n + d1), own_Go p e below (own_K (fun v h L => v = some (.int 1) ∧ Fr n0 L) s room_1.cells room_1.slots) Ts (mkF m 579 #[.val (.long q1), .second, .val (.int p2), .val (.int p3), .val (.int p4), .val (.int p5), .val (.ref b1), .val (.long mm), .second, .val (.ref b21), .val (.int (Int32.ofNat n)), .val (.int (Int32.ofNat (20 - n))), .val (.int sm), .val (.int so), .val (.int tO), .val (.int wo), .val (.int sb), .val (.int tb), .val (.int cb), .val (.int (Int32.ofNat k)), .val (.int (Int32.ofNat (own_a so n))), .val (.int (Int32.ofNat (own_t tO))), .val (.ref u), .val (.int ng), .val (.int sd), .val (.int td), .val (.int ok), .val (.int (Int32.ofNat cn)), .val (.long d2), .second, s30] []) := by
                                      intro d2 Ts Ls Xs Ns es s1 s2
                                      refine own_go (fun t_ k_ => XS.iload Xs.here hx rfl (hb hby at_579) rfl k_) ?_
                                      show own_Go p e below _ Ts (mkF m 581 #[.val (.long q1), .second, .val (.int p2), .val (.int p3), .val (.int p4), .val (.int p5), .val (.ref b1), .val (.long mm), .second, .val (.ref b21), .val (.int (Int32.ofNat n)), .val (.int (Int32.ofNat (20 - n))), .val (.int sm), .val (.int so), .val (.int tO), .val (.int wo), .val (.int sb), .val (.int tb), .val (.int cb), .val (.int (Int32.ofNat k)), .val (.int (Int32.ofNat (own_a so n))), .val (.int (Int32.ofNat (own_t tO))), .val (.ref u), .val (.int ng), .val (.int sd), .val (.int td), .val (.int ok), .val (.int (Int32.ofNat cn)), .val (.long d2), .second, s30] [(.int td)])
                                      have j599 : ∀ (d3 : Int64) (Tt : State) (Lt : List Loc) (Xt : Stand p l e room_1 s m #[(.long q1), (.int p2), (.int p3), (.int p4), (.int p5)] below meth c Tt Lt 3 41) (Nt : Fr n0 Lt) (et : Tt.heap = T24.heap) (t1 : ¬ (tO ≠ 0 ∧ own_dig tb) → d3 = d2) (t2 : (tO ≠ 0 ∧ own_dig tb) → d3 = d2 * 10 + (tb - 48).toInt64), own_Go p e below (own_K (fun v h L => v = some (.int 1) ∧ Fr n0 L) s room_1.cells room_1.slots) Tt (mkF m 599 #[.val (.long q1), .second, .val (.int p2), .val (.int p3), .val (.int p4), .val (.int p5), .val (.ref b1), .val (.long mm), .second, .val (.ref b21), .val (.int (Int32.ofNat n)), .val (.int (Int32.ofNat (20 - n))), .val (.int sm), .val (.int so), .val (.int tO), .val (.int wo), .val (.int sb), .val (.int tb), .val (.int cb), .val (.int (Int32.ofNat k)), .val (.int (Int32.ofNat (own_a so n))), .val (.int (Int32.ofNat (own_t tO))), .val (.ref u), .val (.int ng), .val (.int sd), .val (.int td), .val (.int ok), .val (.int (Int32.ofNat cn)), .val (.long d3), .second, s30] []) := by
                                        intro d3 Tt Lt Xt Nt et t1 t2
                                        refine own_go (fun t_ k_ => XS.iload Xt.here hx rfl (hb hby at_599) rfl k_) ?_
                                        show own_Go p e below _ Tt (mkF m 601 #[.val (.long q1), .second, .val (.int p2), .val (.int p3), .val (.int p4), .val (.int p5), .val (.ref b1), .val (.long mm), .second, .val (.ref b21), .val (.int (Int32.ofNat n)), .val (.int (Int32.ofNat (20 - n))), .val (.int sm), .val (.int so), .val (.int tO), .val (.int wo), .val (.int sb), .val (.int tb), .val (.int cb), .val (.int (Int32.ofNat k)), .val (.int (Int32.ofNat (own_a so n))), .val (.int (Int32.ofNat (own_t tO))), .val (.ref u), .val (.int ng), .val (.int sd), .val (.int td), .val (.int ok), .val (.int (Int32.ofNat cn)), .val (.long d3), .second, s30] [(.int ng)])
                                        have j609 : ∀ (d4 : Int64) (Tw : State) (Lw : List Loc) (Xw : Stand p l e room_1 s m #[(.long q1), (.int p2), (.int p3), (.int p4), (.int p5)] below meth c Tw Lw 3 41) (Nw : Fr n0 Lw) (ew : Tw.heap = T24.heap) (n1 : ¬ (so ≠ 0 ∧ sb = 45) → d4 = d3) (n2 : (so ≠ 0 ∧ sb = 45) → d4 = -d3), own_Go p e below (own_K (fun v h L => v = some (.int 1) ∧ Fr n0 L) s room_1.cells room_1.slots) Tw (mkF m 609 #[.val (.long q1), .second, .val (.int p2), .val (.int p3), .val (.int p4), .val (.int p5), .val (.ref b1), .val (.long mm), .second, .val (.ref b21), .val (.int (Int32.ofNat n)), .val (.int (Int32.ofNat (20 - n))), .val (.int sm), .val (.int so), .val (.int tO), .val (.int wo), .val (.int sb), .val (.int tb), .val (.int cb), .val (.int (Int32.ofNat k)), .val (.int (Int32.ofNat (own_a so n))), .val (.int (Int32.ofNat (own_t tO))), .val (.ref u), .val (.int ng), .val (.int sd), .val (.int td), .val (.int ok), .val (.int (Int32.ofNat cn)), .val (.long d4), .second, s30] []) := by
                                          intro d4 Tw Lw Xw Nw ew n1 n2
                                          refine own_go (fun t_ k_ => XS.aload Xw.here hx rfl (hb hby at_609) rfl rfl k_) ?_
                                          show own_Go p e below _ Tw (mkF m 611 #[.val (.long q1), .second, .val (.int p2), .val (.int p3), .val (.int p4), .val (.int p5), .val (.ref b1), .val (.long mm), .second, .val (.ref b21), .val (.int (Int32.ofNat n)), .val (.int (Int32.ofNat (20 - n))), .val (.int sm), .val (.int so), .val (.int tO), .val (.int wo), .val (.int sb), .val (.int tb), .val (.int cb), .val (.int (Int32.ofNat k)), .val (.int (Int32.ofNat (own_a so n))), .val (.int (Int32.ofNat (own_t tO))), .val (.ref u), .val (.int ng), .val (.int sd), .val (.int td), .val (.int ok), .val (.int (Int32.ofNat cn)), .val (.long d4), .second, s30] [(.ref u)])
                                          refine own_go (fun t_ k_ => XS.ifnullNo Xw.here hx rfl (hb hby at_611) rfl k_) ?_
                                          show own_Go p e below _ Tw (mkF m 614 #[.val (.long q1), .second, .val (.int p2), .val (.int p3), .val (.int p4), .val (.int p5), .val (.ref b1), .val (.long mm), .second, .val (.ref b21), .val (.int (Int32.ofNat n)), .val (.int (Int32.ofNat (20 - n))), .val (.int sm), .val (.int so), .val (.int tO), .val (.int wo), .val (.int sb), .val (.int tb), .val (.int cb), .val (.int (Int32.ofNat k)), .val (.int (Int32.ofNat (own_a so n))), .val (.int (Int32.ofNat (own_t tO))), .val (.ref u), .val (.int ng), .val (.int sd), .val (.int td), .val (.int ok), .val (.int (Int32.ofNat cn)), .val (.long d4), .second, s30] [])
                                          refine own_go (fun t_ k_ => XS.aload Xw.here hx rfl (hb hby at_614) rfl rfl k_) ?_
                                          show own_Go p e below _ Tw (mkF m 616 #[.val (.long q1), .second, .val (.int p2), .val (.int p3), .val (.int p4), .val (.int p5), .val (.ref b1), .val (.long mm), .second, .val (.ref b21), .val (.int (Int32.ofNat n)), .val (.int (Int32.ofNat (20 - n))), .val (.int sm), .val (.int so), .val (.int tO), .val (.int wo), .val (.int sb), .val (.int tb), .val (.int cb), .val (.int (Int32.ofNat k)), .val (.int (Int32.ofNat (own_a so n))), .val (.int (Int32.ofNat (own_t tO))), .val (.ref u), .val (.int ng), .val (.int sd), .val (.int td), .val (.int ok), .val (.int (Int32.ofNat cn)), .val (.long d4), .second, s30] [(.ref u)])
                                          obtain ⟨_, T25, L25, X25, ⟨rfl, N25, e25⟩, st25⟩ := own_callV Xw hx hZ (y := (⟨"java/lang/Long", "longValue", "()J"⟩ : MethodName)) (z := (⟨"java/lang/Long", "longValue", "()J"⟩ : MethodName)) (b := u) (argsL := []) (rest := []) (Ls := #[.val (.long q1), .second, .val (.int p2), .val (.int p3), .val (.int p4), .val (.int p5), .val (.ref b1), .val (.long mm), .second, .val (.ref b21), .val (.int (Int32.ofNat n)), .val (.int (Int32.ofNat (20 - n))), .val (.int sm), .val (.int so), .val (.int tO), .val (.int wo), .val (.int sb), .val (.int tb), .val (.int cb), .val (.int (Int32.ofNat k)), .val (.int (Int32.ofNat (own_a so n))), .val (.int (Int32.ofNat (own_t tO))), .val (.ref u), .val (.int ng), .val (.int sd), .val (.int td), .val (.int ok), .val (.int (Int32.ofNat cn)), .val (.long d4), .second, s30]) hown (own_w hw 51 rfl) (own_w hw 52 rfl) (own_w hw 54 rfl) (notFace_of_selects (args := #[]) (mvT hZ (own_w hw 54 rfl))) (own_w hw 53 rfl) (own_w hw 55 rfl) (own_w hw 45 rfl) (by decide) ew Eu (rmLV l Z a0 hw [] u _ T24.heap n0 (own_oldge old24) Fu) 0 (by decide) (by decide) (by decide) (by decide) (by rw [hml]; rfl) (lenOf pd_0 rfl) rfl (Nat.le_of_eq rfl) (hb hby at_616)
                                          have M25 := Fr.app Nw N25
                                          refine own_go st25 ?_
                                          show own_Go p e below _ T25 (mkF m 619 #[.val (.long q1), .second, .val (.int p2), .val (.int p3), .val (.int p4), .val (.int p5), .val (.ref b1), .val (.long mm), .second, .val (.ref b21), .val (.int (Int32.ofNat n)), .val (.int (Int32.ofNat (20 - n))), .val (.int sm), .val (.int so), .val (.int tO), .val (.int wo), .val (.int sb), .val (.int tb), .val (.int cb), .val (.int (Int32.ofNat k)), .val (.int (Int32.ofNat (own_a so n))), .val (.int (Int32.ofNat (own_t tO))), .val (.ref u), .val (.int ng), .val (.int sd), .val (.int td), .val (.int ok), .val (.int (Int32.ofNat cn)), .val (.long d4), .second, s30] [(.long (own_D (own_f2 mm tb wo cb so sb k n) (own_a so n) (own_t tO)))])
                                          refine own_go (fun t_ k_ => XS.lload X25.here hx rfl (hb hby at_619) rfl k_) ?_
                                          show own_Go p e below _ T25 (mkF m 621 #[.val (.long q1), .second, .val (.int p2), .val (.int p3), .val (.int p4), .val (.int p5), .val (.ref b1), .val (.long mm), .second, .val (.ref b21), .val (.int (Int32.ofNat n)), .val (.int (Int32.ofNat (20 - n))), .val (.int sm), .val (.int so), .val (.int tO), .val (.int wo), .val (.int sb), .val (.int tb), .val (.int cb), .val (.int (Int32.ofNat k)), .val (.int (Int32.ofNat (own_a so n))), .val (.int (Int32.ofNat (own_t tO))), .val (.ref u), .val (.int ng), .val (.int sd), .val (.int td), .val (.int ok), .val (.int (Int32.ofNat cn)), .val (.long d4), .second, s30] [(.long d4), (.long (own_D (own_f2 mm tb wo cb so sb k n) (own_a so n) (own_t tO)))])
                                          refine own_go (fun t_ k_ => XT.lcmp X25.here hx rfl (hb hby at_621) rfl k_) ?_
                                          show own_Go p e below _ T25 (mkF m 622 #[.val (.long q1), .second, .val (.int p2), .val (.int p3), .val (.int p4), .val (.int p5), .val (.ref b1), .val (.long mm), .second, .val (.ref b21), .val (.int (Int32.ofNat n)), .val (.int (Int32.ofNat (20 - n))), .val (.int sm), .val (.int so), .val (.int tO), .val (.int wo), .val (.int sb), .val (.int tb), .val (.int cb), .val (.int (Int32.ofNat k)), .val (.int (Int32.ofNat (own_a so n))), .val (.int (Int32.ofNat (own_t tO))), .val (.ref u), .val (.int ng), .val (.int sd), .val (.int td), .val (.int ok), .val (.int (Int32.ofNat cn)), .val (.long d4), .second, s30] [(.int (XT.cmpL (own_D (own_f2 mm tb wo cb so sb k n) (own_a so n) (own_t tO)) d4))])
                                          refine own_go (fun t_ k_ => XS.ifNo X25.here hx rfl (hb hby at_622) rfl (XT.ll_ne_f (own_B hm hk hOK hc18 hc0 w1 w2 s1 s2 t1 t2 n1 n2)) k_) ?_
                                          show own_Go p e below _ T25 (mkF m 625 #[.val (.long q1), .second, .val (.int p2), .val (.int p3), .val (.int p4), .val (.int p5), .val (.ref b1), .val (.long mm), .second, .val (.ref b21), .val (.int (Int32.ofNat n)), .val (.int (Int32.ofNat (20 - n))), .val (.int sm), .val (.int so), .val (.int tO), .val (.int wo), .val (.int sb), .val (.int tb), .val (.int cb), .val (.int (Int32.ofNat k)), .val (.int (Int32.ofNat (own_a so n))), .val (.int (Int32.ofNat (own_t tO))), .val (.ref u), .val (.int ng), .val (.int sd), .val (.int td), .val (.int ok), .val (.int (Int32.ofNat cn)), .val (.long d4), .second, s30] [])
                                          refine own_go (fun t_ k_ => XS.iconst X25.here hx rfl (hb hby at_625) k_) ?_
                                          show own_Go p e below _ T25 (mkF m 626 #[.val (.long q1), .second, .val (.int p2), .val (.int p3), .val (.int p4), .val (.int p5), .val (.ref b1), .val (.long mm), .second, .val (.ref b21), .val (.int (Int32.ofNat n)), .val (.int (Int32.ofNat (20 - n))), .val (.int sm), .val (.int so), .val (.int tO), .val (.int wo), .val (.int sb), .val (.int tb), .val (.int cb), .val (.int (Int32.ofNat k)), .val (.int (Int32.ofNat (own_a so n))), .val (.int (Int32.ofNat (own_t tO))), .val (.ref u), .val (.int ng), .val (.int sd), .val (.int td), .val (.int ok), .val (.int (Int32.ofNat cn)), .val (.long d4), .second, s30] [(.int (1 : Int32))])
                                          refine own_go (fun t_ k_ => XS.goto X25.here hx rfl (pc0 := 626) (pc' := 630) rfl (hb hby at_626) (by decide) (by decide) k_) ?_
                                          show own_Go p e below _ T25 (mkF m 630 #[.val (.long q1), .second, .val (.int p2), .val (.int p3), .val (.int p4), .val (.int p5), .val (.ref b1), .val (.long mm), .second, .val (.ref b21), .val (.int (Int32.ofNat n)), .val (.int (Int32.ofNat (20 - n))), .val (.int sm), .val (.int so), .val (.int tO), .val (.int wo), .val (.int sb), .val (.int tb), .val (.int cb), .val (.int (Int32.ofNat k)), .val (.int (Int32.ofNat (own_a so n))), .val (.int (Int32.ofNat (own_t tO))), .val (.ref u), .val (.int ng), .val (.int sd), .val (.int td), .val (.int ok), .val (.int (Int32.ofNat cn)), .val (.long d4), .second, s30] [(.int (1 : Int32))])
                                          refine own_retZ X25 hx hlk hret (hb hby at_630) (Or.inr rfl) (by decide) (by decide) ?_
                                          exact ⟨rfl, M25⟩
                                        by_cases h601 : ng = 0
                                        · show own_Go p e below _ Tt (mkF m 601 #[.val (.long q1), .second, .val (.int p2), .val (.int p3), .val (.int p4), .val (.int p5), .val (.ref b1), .val (.long mm), .second, .val (.ref b21), .val (.int (Int32.ofNat n)), .val (.int (Int32.ofNat (20 - n))), .val (.int sm), .val (.int so), .val (.int tO), .val (.int wo), .val (.int sb), .val (.int tb), .val (.int cb), .val (.int (Int32.ofNat k)), .val (.int (Int32.ofNat (own_a so n))), .val (.int (Int32.ofNat (own_t tO))), .val (.ref u), .val (.int ng), .val (.int sd), .val (.int td), .val (.int ok), .val (.int (Int32.ofNat cn)), .val (.long d3), .second, s30] [(.int ng)])
                                          refine own_go (fun t_ k_ => XS.ifYes Xt.here hx rfl (pc0 := 601) (pc' := 609) rfl (hb hby at_601) rfl (XT.i0_eq_t h601) (by decide) (by decide) k_) ?_
                                          show own_Go p e below _ Tt (mkF m 609 #[.val (.long q1), .second, .val (.int p2), .val (.int p3), .val (.int p4), .val (.int p5), .val (.ref b1), .val (.long mm), .second, .val (.ref b21), .val (.int (Int32.ofNat n)), .val (.int (Int32.ofNat (20 - n))), .val (.int sm), .val (.int so), .val (.int tO), .val (.int wo), .val (.int sb), .val (.int tb), .val (.int cb), .val (.int (Int32.ofNat k)), .val (.int (Int32.ofNat (own_a so n))), .val (.int (Int32.ofNat (own_t tO))), .val (.ref u), .val (.int ng), .val (.int sd), .val (.int td), .val (.int ok), .val (.int (Int32.ofNat cn)), .val (.long d3), .second, s30] [])
                                          exact j609 d3 Tt _ Xt Nt et (fun _ => rfl) (fun z => absurd z (hng.mp h601))
                                        · show own_Go p e below _ Tt (mkF m 601 #[.val (.long q1), .second, .val (.int p2), .val (.int p3), .val (.int p4), .val (.int p5), .val (.ref b1), .val (.long mm), .second, .val (.ref b21), .val (.int (Int32.ofNat n)), .val (.int (Int32.ofNat (20 - n))), .val (.int sm), .val (.int so), .val (.int tO), .val (.int wo), .val (.int sb), .val (.int tb), .val (.int cb), .val (.int (Int32.ofNat k)), .val (.int (Int32.ofNat (own_a so n))), .val (.int (Int32.ofNat (own_t tO))), .val (.ref u), .val (.int ng), .val (.int sd), .val (.int td), .val (.int ok), .val (.int (Int32.ofNat cn)), .val (.long d3), .second, s30] [(.int ng)])
                                          refine own_go (fun t_ k_ => XS.ifNo Xt.here hx rfl (hb hby at_601) rfl (XT.i0_eq_f h601) k_) ?_
                                          show own_Go p e below _ Tt (mkF m 604 #[.val (.long q1), .second, .val (.int p2), .val (.int p3), .val (.int p4), .val (.int p5), .val (.ref b1), .val (.long mm), .second, .val (.ref b21), .val (.int (Int32.ofNat n)), .val (.int (Int32.ofNat (20 - n))), .val (.int sm), .val (.int so), .val (.int tO), .val (.int wo), .val (.int sb), .val (.int tb), .val (.int cb), .val (.int (Int32.ofNat k)), .val (.int (Int32.ofNat (own_a so n))), .val (.int (Int32.ofNat (own_t tO))), .val (.ref u), .val (.int ng), .val (.int sd), .val (.int td), .val (.int ok), .val (.int (Int32.ofNat cn)), .val (.long d3), .second, s30] [])
                                          refine own_go (fun t_ k_ => XS.lload Xt.here hx rfl (hb hby at_604) rfl k_) ?_
                                          show own_Go p e below _ Tt (mkF m 606 #[.val (.long q1), .second, .val (.int p2), .val (.int p3), .val (.int p4), .val (.int p5), .val (.ref b1), .val (.long mm), .second, .val (.ref b21), .val (.int (Int32.ofNat n)), .val (.int (Int32.ofNat (20 - n))), .val (.int sm), .val (.int so), .val (.int tO), .val (.int wo), .val (.int sb), .val (.int tb), .val (.int cb), .val (.int (Int32.ofNat k)), .val (.int (Int32.ofNat (own_a so n))), .val (.int (Int32.ofNat (own_t tO))), .val (.ref u), .val (.int ng), .val (.int sd), .val (.int td), .val (.int ok), .val (.int (Int32.ofNat cn)), .val (.long d3), .second, s30] [(.long d3)])
                                          refine own_go (fun t_ k_ => XS.lneg Xt.here hx rfl (hb hby at_606) rfl k_) ?_
                                          show own_Go p e below _ Tt (mkF m 607 #[.val (.long q1), .second, .val (.int p2), .val (.int p3), .val (.int p4), .val (.int p5), .val (.ref b1), .val (.long mm), .second, .val (.ref b21), .val (.int (Int32.ofNat n)), .val (.int (Int32.ofNat (20 - n))), .val (.int sm), .val (.int so), .val (.int tO), .val (.int wo), .val (.int sb), .val (.int tb), .val (.int cb), .val (.int (Int32.ofNat k)), .val (.int (Int32.ofNat (own_a so n))), .val (.int (Int32.ofNat (own_t tO))), .val (.ref u), .val (.int ng), .val (.int sd), .val (.int td), .val (.int ok), .val (.int (Int32.ofNat cn)), .val (.long d3), .second, s30] [(.long (-d3))])
                                          refine own_go (fun t_ k_ => XS.lstore Xt.here hx rfl (hb hby at_607) rfl (l' := #[.val (.long q1), .second, .val (.int p2), .val (.int p3), .val (.int p4), .val (.int p5), .val (.ref b1), .val (.long mm), .second, .val (.ref b21), .val (.int (Int32.ofNat n)), .val (.int (Int32.ofNat (20 - n))), .val (.int sm), .val (.int so), .val (.int tO), .val (.int wo), .val (.int sb), .val (.int tb), .val (.int cb), .val (.int (Int32.ofNat k)), .val (.int (Int32.ofNat (own_a so n))), .val (.int (Int32.ofNat (own_t tO))), .val (.ref u), .val (.int ng), .val (.int sd), .val (.int td), .val (.int ok), .val (.int (Int32.ofNat cn)), .val (.long (-d3)), .second, s30]) rfl k_) ?_
                                          show own_Go p e below _ Tt (mkF m 609 #[.val (.long q1), .second, .val (.int p2), .val (.int p3), .val (.int p4), .val (.int p5), .val (.ref b1), .val (.long mm), .second, .val (.ref b21), .val (.int (Int32.ofNat n)), .val (.int (Int32.ofNat (20 - n))), .val (.int sm), .val (.int so), .val (.int tO), .val (.int wo), .val (.int sb), .val (.int tb), .val (.int cb), .val (.int (Int32.ofNat k)), .val (.int (Int32.ofNat (own_a so n))), .val (.int (Int32.ofNat (own_t tO))), .val (.ref u), .val (.int ng), .val (.int sd), .val (.int td), .val (.int ok), .val (.int (Int32.ofNat cn)), .val (.long (-d3)), .second, s30] [])
                                          exact j609 (-d3) Tt _ Xt Nt et (fun z => absurd (Classical.byContradiction fun y => h601 (hng.mpr y)) z) (fun _ => rfl)
                                      by_cases h581 : td = 0
                                      · show own_Go p e below _ Ts (mkF m 581 #[.val (.long q1), .second, .val (.int p2), .val (.int p3), .val (.int p4), .val (.int p5), .val (.ref b1), .val (.long mm), .second, .val (.ref b21), .val (.int (Int32.ofNat n)), .val (.int (Int32.ofNat (20 - n))), .val (.int sm), .val (.int so), .val (.int tO), .val (.int wo), .val (.int sb), .val (.int tb), .val (.int cb), .val (.int (Int32.ofNat k)), .val (.int (Int32.ofNat (own_a so n))), .val (.int (Int32.ofNat (own_t tO))), .val (.ref u), .val (.int ng), .val (.int sd), .val (.int td), .val (.int ok), .val (.int (Int32.ofNat cn)), .val (.long d2), .second, s30] [(.int td)])
                                        refine own_go (fun t_ k_ => XS.ifYes Xs.here hx rfl (pc0 := 581) (pc' := 599) rfl (hb hby at_581) rfl (XT.i0_eq_t h581) (by decide) (by decide) k_) ?_
                                        show own_Go p e below _ Ts (mkF m 599 #[.val (.long q1), .second, .val (.int p2), .val (.int p3), .val (.int p4), .val (.int p5), .val (.ref b1), .val (.long mm), .second, .val (.ref b21), .val (.int (Int32.ofNat n)), .val (.int (Int32.ofNat (20 - n))), .val (.int sm), .val (.int so), .val (.int tO), .val (.int wo), .val (.int sb), .val (.int tb), .val (.int cb), .val (.int (Int32.ofNat k)), .val (.int (Int32.ofNat (own_a so n))), .val (.int (Int32.ofNat (own_t tO))), .val (.ref u), .val (.int ng), .val (.int sd), .val (.int td), .val (.int ok), .val (.int (Int32.ofNat cn)), .val (.long d2), .second, s30] [])
                                        exact j599 d2 Ts _ Xs Ns es (fun _ => rfl) (fun z => absurd z (htd.mp h581))
                                      · show own_Go p e below _ Ts (mkF m 581 #[.val (.long q1), .second, .val (.int p2), .val (.int p3), .val (.int p4), .val (.int p5), .val (.ref b1), .val (.long mm), .second, .val (.ref b21), .val (.int (Int32.ofNat n)), .val (.int (Int32.ofNat (20 - n))), .val (.int sm), .val (.int so), .val (.int tO), .val (.int wo), .val (.int sb), .val (.int tb), .val (.int cb), .val (.int (Int32.ofNat k)), .val (.int (Int32.ofNat (own_a so n))), .val (.int (Int32.ofNat (own_t tO))), .val (.ref u), .val (.int ng), .val (.int sd), .val (.int td), .val (.int ok), .val (.int (Int32.ofNat cn)), .val (.long d2), .second, s30] [(.int td)])
                                        refine own_go (fun t_ k_ => XS.ifNo Xs.here hx rfl (hb hby at_581) rfl (XT.i0_eq_f h581) k_) ?_
                                        show own_Go p e below _ Ts (mkF m 584 #[.val (.long q1), .second, .val (.int p2), .val (.int p3), .val (.int p4), .val (.int p5), .val (.ref b1), .val (.long mm), .second, .val (.ref b21), .val (.int (Int32.ofNat n)), .val (.int (Int32.ofNat (20 - n))), .val (.int sm), .val (.int so), .val (.int tO), .val (.int wo), .val (.int sb), .val (.int tb), .val (.int cb), .val (.int (Int32.ofNat k)), .val (.int (Int32.ofNat (own_a so n))), .val (.int (Int32.ofNat (own_t tO))), .val (.ref u), .val (.int ng), .val (.int sd), .val (.int td), .val (.int ok), .val (.int (Int32.ofNat cn)), .val (.long d2), .second, s30] [])
                                        refine own_go (fun t_ k_ => XS.lload Xs.here hx rfl (hb hby at_584) rfl k_) ?_
                                        show own_Go p e below _ Ts (mkF m 586 #[.val (.long q1), .second, .val (.int p2), .val (.int p3), .val (.int p4), .val (.int p5), .val (.ref b1), .val (.long mm), .second, .val (.ref b21), .val (.int (Int32.ofNat n)), .val (.int (Int32.ofNat (20 - n))), .val (.int sm), .val (.int so), .val (.int tO), .val (.int wo), .val (.int sb), .val (.int tb), .val (.int cb), .val (.int (Int32.ofNat k)), .val (.int (Int32.ofNat (own_a so n))), .val (.int (Int32.ofNat (own_t tO))), .val (.ref u), .val (.int ng), .val (.int sd), .val (.int td), .val (.int ok), .val (.int (Int32.ofNat cn)), .val (.long d2), .second, s30] [(.long d2)])
                                        refine own_go (fun t_ k_ => Xs.ldc2Long hx hown (mvT hZ (own_w hw 1 rfl)) (g := (mkF m 586 #[.val (.long q1), .second, .val (.int p2), .val (.int p3), .val (.int p4), .val (.int p5), .val (.ref b1), .val (.long mm), .second, .val (.ref b21), .val (.int (Int32.ofNat n)), .val (.int (Int32.ofNat (20 - n))), .val (.int sm), .val (.int so), .val (.int tO), .val (.int wo), .val (.int sb), .val (.int tb), .val (.int cb), .val (.int (Int32.ofNat k)), .val (.int (Int32.ofNat (own_a so n))), .val (.int (Int32.ofNat (own_t tO))), .val (.ref u), .val (.int ng), .val (.int sd), .val (.int td), .val (.int ok), .val (.int (Int32.ofNat cn)), .val (.long d2), .second, s30] [(.long d2)])) rfl (hb hby at_586) t_ k_) ?_
                                        show own_Go p e below _ Ts (mkF m 589 #[.val (.long q1), .second, .val (.int p2), .val (.int p3), .val (.int p4), .val (.int p5), .val (.ref b1), .val (.long mm), .second, .val (.ref b21), .val (.int (Int32.ofNat n)), .val (.int (Int32.ofNat (20 - n))), .val (.int sm), .val (.int so), .val (.int tO), .val (.int wo), .val (.int sb), .val (.int tb), .val (.int cb), .val (.int (Int32.ofNat k)), .val (.int (Int32.ofNat (own_a so n))), .val (.int (Int32.ofNat (own_t tO))), .val (.ref u), .val (.int ng), .val (.int sd), .val (.int td), .val (.int ok), .val (.int (Int32.ofNat cn)), .val (.long d2), .second, s30] [(.long (10 : Int64)), (.long d2)])
                                        refine own_go (fun t_ k_ => XS.lmul Xs.here hx rfl (hb hby at_589) rfl k_) ?_
                                        show own_Go p e below _ Ts (mkF m 590 #[.val (.long q1), .second, .val (.int p2), .val (.int p3), .val (.int p4), .val (.int p5), .val (.ref b1), .val (.long mm), .second, .val (.ref b21), .val (.int (Int32.ofNat n)), .val (.int (Int32.ofNat (20 - n))), .val (.int sm), .val (.int so), .val (.int tO), .val (.int wo), .val (.int sb), .val (.int tb), .val (.int cb), .val (.int (Int32.ofNat k)), .val (.int (Int32.ofNat (own_a so n))), .val (.int (Int32.ofNat (own_t tO))), .val (.ref u), .val (.int ng), .val (.int sd), .val (.int td), .val (.int ok), .val (.int (Int32.ofNat cn)), .val (.long d2), .second, s30] [(.long (d2 * (10 : Int64)))])
                                        refine own_go (fun t_ k_ => XS.iload Xs.here hx rfl (hb hby at_590) rfl k_) ?_
                                        show own_Go p e below _ Ts (mkF m 592 #[.val (.long q1), .second, .val (.int p2), .val (.int p3), .val (.int p4), .val (.int p5), .val (.ref b1), .val (.long mm), .second, .val (.ref b21), .val (.int (Int32.ofNat n)), .val (.int (Int32.ofNat (20 - n))), .val (.int sm), .val (.int so), .val (.int tO), .val (.int wo), .val (.int sb), .val (.int tb), .val (.int cb), .val (.int (Int32.ofNat k)), .val (.int (Int32.ofNat (own_a so n))), .val (.int (Int32.ofNat (own_t tO))), .val (.ref u), .val (.int ng), .val (.int sd), .val (.int td), .val (.int ok), .val (.int (Int32.ofNat cn)), .val (.long d2), .second, s30] [(.int tb), (.long (d2 * (10 : Int64)))])
                                        refine own_go (fun t_ k_ => XS.bipush Xs.here hx rfl (hb hby at_592) k_) ?_
                                        show own_Go p e below _ Ts (mkF m 594 #[.val (.long q1), .second, .val (.int p2), .val (.int p3), .val (.int p4), .val (.int p5), .val (.ref b1), .val (.long mm), .second, .val (.ref b21), .val (.int (Int32.ofNat n)), .val (.int (Int32.ofNat (20 - n))), .val (.int sm), .val (.int so), .val (.int tO), .val (.int wo), .val (.int sb), .val (.int tb), .val (.int cb), .val (.int (Int32.ofNat k)), .val (.int (Int32.ofNat (own_a so n))), .val (.int (Int32.ofNat (own_t tO))), .val (.ref u), .val (.int ng), .val (.int sd), .val (.int td), .val (.int ok), .val (.int (Int32.ofNat cn)), .val (.long d2), .second, s30] [(.int (48 : Int32)), (.int tb), (.long (d2 * (10 : Int64)))])
                                        refine own_go (fun t_ k_ => XS.isub Xs.here hx rfl (hb hby at_594) rfl k_) ?_
                                        show own_Go p e below _ Ts (mkF m 595 #[.val (.long q1), .second, .val (.int p2), .val (.int p3), .val (.int p4), .val (.int p5), .val (.ref b1), .val (.long mm), .second, .val (.ref b21), .val (.int (Int32.ofNat n)), .val (.int (Int32.ofNat (20 - n))), .val (.int sm), .val (.int so), .val (.int tO), .val (.int wo), .val (.int sb), .val (.int tb), .val (.int cb), .val (.int (Int32.ofNat k)), .val (.int (Int32.ofNat (own_a so n))), .val (.int (Int32.ofNat (own_t tO))), .val (.ref u), .val (.int ng), .val (.int sd), .val (.int td), .val (.int ok), .val (.int (Int32.ofNat cn)), .val (.long d2), .second, s30] [(.int (tb - (48 : Int32))), (.long (d2 * (10 : Int64)))])
                                        refine own_go (fun t_ k_ => XS.i2l Xs.here hx rfl (hb hby at_595) rfl k_) ?_
                                        show own_Go p e below _ Ts (mkF m 596 #[.val (.long q1), .second, .val (.int p2), .val (.int p3), .val (.int p4), .val (.int p5), .val (.ref b1), .val (.long mm), .second, .val (.ref b21), .val (.int (Int32.ofNat n)), .val (.int (Int32.ofNat (20 - n))), .val (.int sm), .val (.int so), .val (.int tO), .val (.int wo), .val (.int sb), .val (.int tb), .val (.int cb), .val (.int (Int32.ofNat k)), .val (.int (Int32.ofNat (own_a so n))), .val (.int (Int32.ofNat (own_t tO))), .val (.ref u), .val (.int ng), .val (.int sd), .val (.int td), .val (.int ok), .val (.int (Int32.ofNat cn)), .val (.long d2), .second, s30] [(.long (tb - (48 : Int32)).toInt64), (.long (d2 * (10 : Int64)))])
                                        refine own_go (fun t_ k_ => XS.ladd Xs.here hx rfl (hb hby at_596) rfl k_) ?_
                                        show own_Go p e below _ Ts (mkF m 597 #[.val (.long q1), .second, .val (.int p2), .val (.int p3), .val (.int p4), .val (.int p5), .val (.ref b1), .val (.long mm), .second, .val (.ref b21), .val (.int (Int32.ofNat n)), .val (.int (Int32.ofNat (20 - n))), .val (.int sm), .val (.int so), .val (.int tO), .val (.int wo), .val (.int sb), .val (.int tb), .val (.int cb), .val (.int (Int32.ofNat k)), .val (.int (Int32.ofNat (own_a so n))), .val (.int (Int32.ofNat (own_t tO))), .val (.ref u), .val (.int ng), .val (.int sd), .val (.int td), .val (.int ok), .val (.int (Int32.ofNat cn)), .val (.long d2), .second, s30] [(.long ((d2 * (10 : Int64)) + (tb - (48 : Int32)).toInt64))])
                                        refine own_go (fun t_ k_ => XS.lstore Xs.here hx rfl (hb hby at_597) rfl (l' := #[.val (.long q1), .second, .val (.int p2), .val (.int p3), .val (.int p4), .val (.int p5), .val (.ref b1), .val (.long mm), .second, .val (.ref b21), .val (.int (Int32.ofNat n)), .val (.int (Int32.ofNat (20 - n))), .val (.int sm), .val (.int so), .val (.int tO), .val (.int wo), .val (.int sb), .val (.int tb), .val (.int cb), .val (.int (Int32.ofNat k)), .val (.int (Int32.ofNat (own_a so n))), .val (.int (Int32.ofNat (own_t tO))), .val (.ref u), .val (.int ng), .val (.int sd), .val (.int td), .val (.int ok), .val (.int (Int32.ofNat cn)), .val (.long ((d2 * (10 : Int64)) + (tb - (48 : Int32)).toInt64)), .second, s30]) rfl k_) ?_
                                        show own_Go p e below _ Ts (mkF m 599 #[.val (.long q1), .second, .val (.int p2), .val (.int p3), .val (.int p4), .val (.int p5), .val (.ref b1), .val (.long mm), .second, .val (.ref b21), .val (.int (Int32.ofNat n)), .val (.int (Int32.ofNat (20 - n))), .val (.int sm), .val (.int so), .val (.int tO), .val (.int wo), .val (.int sb), .val (.int tb), .val (.int cb), .val (.int (Int32.ofNat k)), .val (.int (Int32.ofNat (own_a so n))), .val (.int (Int32.ofNat (own_t tO))), .val (.ref u), .val (.int ng), .val (.int sd), .val (.int td), .val (.int ok), .val (.int (Int32.ofNat cn)), .val (.long ((d2 * (10 : Int64)) + (tb - (48 : Int32)).toInt64)), .second, s30] [])
                                        exact j599 ((d2 * (10 : Int64)) + (tb - (48 : Int32)).toInt64) Ts _ Xs Ns es (fun z => absurd (Classical.byContradiction fun y => h581 (htd.mpr y)) z) (fun _ => rfl)
                                    by_cases h559 : sd = 0
                                    · show own_Go p e below _ Tr (mkF m 559 #[.val (.long q1), .second, .val (.int p2), .val (.int p3), .val (.int p4), .val (.int p5), .val (.ref b1), .val (.long mm), .second, .val (.ref b21), .val (.int (Int32.ofNat n)), .val (.int (Int32.ofNat (20 - n))), .val (.int sm), .val (.int so), .val (.int tO), .val (.int wo), .val (.int sb), .val (.int tb), .val (.int cb), .val (.int (Int32.ofNat k)), .val (.int (Int32.ofNat (own_a so n))), .val (.int (Int32.ofNat (own_t tO))), .val (.ref u), .val (.int ng), .val (.int sd), .val (.int td), .val (.int ok), .val (.int (Int32.ofNat cn)), .val (.long d1), .second, s30] [(.int sd)])
                                      refine own_go (fun t_ k_ => XS.ifYes Xr.here hx rfl (pc0 := 559) (pc' := 579) rfl (hb hby at_559) rfl (XT.i0_eq_t h559) (by decide) (by decide) k_) ?_
                                      show own_Go p e below _ Tr (mkF m 579 #[.val (.long q1), .second, .val (.int p2), .val (.int p3), .val (.int p4), .val (.int p5), .val (.ref b1), .val (.long mm), .second, .val (.ref b21), .val (.int (Int32.ofNat n)), .val (.int (Int32.ofNat (20 - n))), .val (.int sm), .val (.int so), .val (.int tO), .val (.int wo), .val (.int sb), .val (.int tb), .val (.int cb), .val (.int (Int32.ofNat k)), .val (.int (Int32.ofNat (own_a so n))), .val (.int (Int32.ofNat (own_t tO))), .val (.ref u), .val (.int ng), .val (.int sd), .val (.int td), .val (.int ok), .val (.int (Int32.ofNat cn)), .val (.long d1), .second, s30] [])
                                      exact j579 d1 Tr _ Xr Nr er (fun _ => rfl) (fun z => absurd z (hsd.mp h559))
                                    · show own_Go p e below _ Tr (mkF m 559 #[.val (.long q1), .second, .val (.int p2), .val (.int p3), .val (.int p4), .val (.int p5), .val (.ref b1), .val (.long mm), .second, .val (.ref b21), .val (.int (Int32.ofNat n)), .val (.int (Int32.ofNat (20 - n))), .val (.int sm), .val (.int so), .val (.int tO), .val (.int wo), .val (.int sb), .val (.int tb), .val (.int cb), .val (.int (Int32.ofNat k)), .val (.int (Int32.ofNat (own_a so n))), .val (.int (Int32.ofNat (own_t tO))), .val (.ref u), .val (.int ng), .val (.int sd), .val (.int td), .val (.int ok), .val (.int (Int32.ofNat cn)), .val (.long d1), .second, s30] [(.int sd)])
                                      refine own_go (fun t_ k_ => XS.ifNo Xr.here hx rfl (hb hby at_559) rfl (XT.i0_eq_f h559) k_) ?_
                                      show own_Go p e below _ Tr (mkF m 562 #[.val (.long q1), .second, .val (.int p2), .val (.int p3), .val (.int p4), .val (.int p5), .val (.ref b1), .val (.long mm), .second, .val (.ref b21), .val (.int (Int32.ofNat n)), .val (.int (Int32.ofNat (20 - n))), .val (.int sm), .val (.int so), .val (.int tO), .val (.int wo), .val (.int sb), .val (.int tb), .val (.int cb), .val (.int (Int32.ofNat k)), .val (.int (Int32.ofNat (own_a so n))), .val (.int (Int32.ofNat (own_t tO))), .val (.ref u), .val (.int ng), .val (.int sd), .val (.int td), .val (.int ok), .val (.int (Int32.ofNat cn)), .val (.long d1), .second, s30] [])
                                      refine own_go (fun t_ k_ => XS.iload Xr.here hx rfl (hb hby at_562) rfl k_) ?_
                                      show own_Go p e below _ Tr (mkF m 564 #[.val (.long q1), .second, .val (.int p2), .val (.int p3), .val (.int p4), .val (.int p5), .val (.ref b1), .val (.long mm), .second, .val (.ref b21), .val (.int (Int32.ofNat n)), .val (.int (Int32.ofNat (20 - n))), .val (.int sm), .val (.int so), .val (.int tO), .val (.int wo), .val (.int sb), .val (.int tb), .val (.int cb), .val (.int (Int32.ofNat k)), .val (.int (Int32.ofNat (own_a so n))), .val (.int (Int32.ofNat (own_t tO))), .val (.ref u), .val (.int ng), .val (.int sd), .val (.int td), .val (.int ok), .val (.int (Int32.ofNat cn)), .val (.long d1), .second, s30] [(.int sb)])
                                      refine own_go (fun t_ k_ => XS.bipush Xr.here hx rfl (hb hby at_564) k_) ?_
                                      show own_Go p e below _ Tr (mkF m 566 #[.val (.long q1), .second, .val (.int p2), .val (.int p3), .val (.int p4), .val (.int p5), .val (.ref b1), .val (.long mm), .second, .val (.ref b21), .val (.int (Int32.ofNat n)), .val (.int (Int32.ofNat (20 - n))), .val (.int sm), .val (.int so), .val (.int tO), .val (.int wo), .val (.int sb), .val (.int tb), .val (.int cb), .val (.int (Int32.ofNat k)), .val (.int (Int32.ofNat (own_a so n))), .val (.int (Int32.ofNat (own_t tO))), .val (.ref u), .val (.int ng), .val (.int sd), .val (.int td), .val (.int ok), .val (.int (Int32.ofNat cn)), .val (.long d1), .second, s30] [(.int (48 : Int32)), (.int sb)])
                                      refine own_go (fun t_ k_ => XS.isub Xr.here hx rfl (hb hby at_566) rfl k_) ?_
                                      show own_Go p e below _ Tr (mkF m 567 #[.val (.long q1), .second, .val (.int p2), .val (.int p3), .val (.int p4), .val (.int p5), .val (.ref b1), .val (.long mm), .second, .val (.ref b21), .val (.int (Int32.ofNat n)), .val (.int (Int32.ofNat (20 - n))), .val (.int sm), .val (.int so), .val (.int tO), .val (.int wo), .val (.int sb), .val (.int tb), .val (.int cb), .val (.int (Int32.ofNat k)), .val (.int (Int32.ofNat (own_a so n))), .val (.int (Int32.ofNat (own_t tO))), .val (.ref u), .val (.int ng), .val (.int sd), .val (.int td), .val (.int ok), .val (.int (Int32.ofNat cn)), .val (.long d1), .second, s30] [(.int (sb - (48 : Int32)))])
                                      refine own_go (fun t_ k_ => XS.i2l Xr.here hx rfl (hb hby at_567) rfl k_) ?_
                                      show own_Go p e below _ Tr (mkF m 568 #[.val (.long q1), .second, .val (.int p2), .val (.int p3), .val (.int p4), .val (.int p5), .val (.ref b1), .val (.long mm), .second, .val (.ref b21), .val (.int (Int32.ofNat n)), .val (.int (Int32.ofNat (20 - n))), .val (.int sm), .val (.int so), .val (.int tO), .val (.int wo), .val (.int sb), .val (.int tb), .val (.int cb), .val (.int (Int32.ofNat k)), .val (.int (Int32.ofNat (own_a so n))), .val (.int (Int32.ofNat (own_t tO))), .val (.ref u), .val (.int ng), .val (.int sd), .val (.int td), .val (.int ok), .val (.int (Int32.ofNat cn)), .val (.long d1), .second, s30] [(.long (sb - (48 : Int32)).toInt64)])
                                      refine own_go (fun t_ k_ => XS.aload Xr.here hx rfl (hb hby at_568) rfl rfl k_) ?_
                                      show own_Go p e below _ Tr (mkF m 570 #[.val (.long q1), .second, .val (.int p2), .val (.int p3), .val (.int p4), .val (.int p5), .val (.ref b1), .val (.long mm), .second, .val (.ref b21), .val (.int (Int32.ofNat n)), .val (.int (Int32.ofNat (20 - n))), .val (.int sm), .val (.int so), .val (.int tO), .val (.int wo), .val (.int sb), .val (.int tb), .val (.int cb), .val (.int (Int32.ofNat k)), .val (.int (Int32.ofNat (own_a so n))), .val (.int (Int32.ofNat (own_t tO))), .val (.ref u), .val (.int ng), .val (.int sd), .val (.int td), .val (.int ok), .val (.int (Int32.ofNat cn)), .val (.long d1), .second, s30] [(.ref b1), (.long (sb - (48 : Int32)).toInt64)])
                                      refine own_go (fun t_ k_ => XS.iload Xr.here hx rfl (hb hby at_570) rfl k_) ?_
                                      show own_Go p e below _ Tr (mkF m 572 #[.val (.long q1), .second, .val (.int p2), .val (.int p3), .val (.int p4), .val (.int p5), .val (.ref b1), .val (.long mm), .second, .val (.ref b21), .val (.int (Int32.ofNat n)), .val (.int (Int32.ofNat (20 - n))), .val (.int sm), .val (.int so), .val (.int tO), .val (.int wo), .val (.int sb), .val (.int tb), .val (.int cb), .val (.int (Int32.ofNat k)), .val (.int (Int32.ofNat (own_a so n))), .val (.int (Int32.ofNat (own_t tO))), .val (.ref u), .val (.int ng), .val (.int sd), .val (.int td), .val (.int ok), .val (.int (Int32.ofNat cn)), .val (.long d1), .second, s30] [(.int (Int32.ofNat n)), (.ref b1), (.long (sb - (48 : Int32)).toInt64)])
                                      refine own_go (own_ldLA Xr hx hZ er (Ls := #[.val (.long q1), .second, .val (.int p2), .val (.int p3), .val (.int p4), .val (.int p5), .val (.ref b1), .val (.long mm), .second, .val (.ref b21), .val (.int (Int32.ofNat n)), .val (.int (Int32.ofNat (20 - n))), .val (.int sm), .val (.int so), .val (.int tO), .val (.int wo), .val (.int sb), .val (.int tb), .val (.int cb), .val (.int (Int32.ofNat k)), .val (.int (Int32.ofNat (own_a so n))), .val (.int (Int32.ofNat (own_t tO))), .val (.ref u), .val (.int ng), .val (.int sd), .val (.int td), .val (.int ok), .val (.int (Int32.ofNat cn)), .val (.long d1), .second, s30]) (rest := [(.long (sb - (48 : Int32)).toInt64)]) (Vte.keep K24 nin0) (by decide) n (by omega) (hb hby at_572)) ?_
                                      show own_Go p e below _ Tr (mkF m 573 #[.val (.long q1), .second, .val (.int p2), .val (.int p3), .val (.int p4), .val (.int p5), .val (.ref b1), .val (.long mm), .second, .val (.ref b21), .val (.int (Int32.ofNat n)), .val (.int (Int32.ofNat (20 - n))), .val (.int sm), .val (.int so), .val (.int tO), .val (.int wo), .val (.int sb), .val (.int tb), .val (.int cb), .val (.int (Int32.ofNat k)), .val (.int (Int32.ofNat (own_a so n))), .val (.int (Int32.ofNat (own_t tO))), .val (.ref u), .val (.int ng), .val (.int sd), .val (.int td), .val (.int ok), .val (.int (Int32.ofNat cn)), .val (.long d1), .second, s30] [(.long (own_ten n)), (.long (sb - (48 : Int32)).toInt64)])
                                      refine own_go (fun t_ k_ => XS.lmul Xr.here hx rfl (hb hby at_573) rfl k_) ?_
                                      show own_Go p e below _ Tr (mkF m 574 #[.val (.long q1), .second, .val (.int p2), .val (.int p3), .val (.int p4), .val (.int p5), .val (.ref b1), .val (.long mm), .second, .val (.ref b21), .val (.int (Int32.ofNat n)), .val (.int (Int32.ofNat (20 - n))), .val (.int sm), .val (.int so), .val (.int tO), .val (.int wo), .val (.int sb), .val (.int tb), .val (.int cb), .val (.int (Int32.ofNat k)), .val (.int (Int32.ofNat (own_a so n))), .val (.int (Int32.ofNat (own_t tO))), .val (.ref u), .val (.int ng), .val (.int sd), .val (.int td), .val (.int ok), .val (.int (Int32.ofNat cn)), .val (.long d1), .second, s30] [(.long ((sb - (48 : Int32)).toInt64 * (own_ten n)))])
                                      refine own_go (fun t_ k_ => XS.lload Xr.here hx rfl (hb hby at_574) rfl k_) ?_
                                      show own_Go p e below _ Tr (mkF m 576 #[.val (.long q1), .second, .val (.int p2), .val (.int p3), .val (.int p4), .val (.int p5), .val (.ref b1), .val (.long mm), .second, .val (.ref b21), .val (.int (Int32.ofNat n)), .val (.int (Int32.ofNat (20 - n))), .val (.int sm), .val (.int so), .val (.int tO), .val (.int wo), .val (.int sb), .val (.int tb), .val (.int cb), .val (.int (Int32.ofNat k)), .val (.int (Int32.ofNat (own_a so n))), .val (.int (Int32.ofNat (own_t tO))), .val (.ref u), .val (.int ng), .val (.int sd), .val (.int td), .val (.int ok), .val (.int (Int32.ofNat cn)), .val (.long d1), .second, s30] [(.long d1), (.long ((sb - (48 : Int32)).toInt64 * (own_ten n)))])
                                      refine own_go (fun t_ k_ => XS.ladd Xr.here hx rfl (hb hby at_576) rfl k_) ?_
                                      show own_Go p e below _ Tr (mkF m 577 #[.val (.long q1), .second, .val (.int p2), .val (.int p3), .val (.int p4), .val (.int p5), .val (.ref b1), .val (.long mm), .second, .val (.ref b21), .val (.int (Int32.ofNat n)), .val (.int (Int32.ofNat (20 - n))), .val (.int sm), .val (.int so), .val (.int tO), .val (.int wo), .val (.int sb), .val (.int tb), .val (.int cb), .val (.int (Int32.ofNat k)), .val (.int (Int32.ofNat (own_a so n))), .val (.int (Int32.ofNat (own_t tO))), .val (.ref u), .val (.int ng), .val (.int sd), .val (.int td), .val (.int ok), .val (.int (Int32.ofNat cn)), .val (.long d1), .second, s30] [(.long (((sb - (48 : Int32)).toInt64 * (own_ten n)) + d1))])
                                      refine own_go (fun t_ k_ => XS.lstore Xr.here hx rfl (hb hby at_577) rfl (l' := #[.val (.long q1), .second, .val (.int p2), .val (.int p3), .val (.int p4), .val (.int p5), .val (.ref b1), .val (.long mm), .second, .val (.ref b21), .val (.int (Int32.ofNat n)), .val (.int (Int32.ofNat (20 - n))), .val (.int sm), .val (.int so), .val (.int tO), .val (.int wo), .val (.int sb), .val (.int tb), .val (.int cb), .val (.int (Int32.ofNat k)), .val (.int (Int32.ofNat (own_a so n))), .val (.int (Int32.ofNat (own_t tO))), .val (.ref u), .val (.int ng), .val (.int sd), .val (.int td), .val (.int ok), .val (.int (Int32.ofNat cn)), .val (.long (((sb - (48 : Int32)).toInt64 * (own_ten n)) + d1)), .second, s30]) rfl k_) ?_
                                      show own_Go p e below _ Tr (mkF m 579 #[.val (.long q1), .second, .val (.int p2), .val (.int p3), .val (.int p4), .val (.int p5), .val (.ref b1), .val (.long mm), .second, .val (.ref b21), .val (.int (Int32.ofNat n)), .val (.int (Int32.ofNat (20 - n))), .val (.int sm), .val (.int so), .val (.int tO), .val (.int wo), .val (.int sb), .val (.int tb), .val (.int cb), .val (.int (Int32.ofNat k)), .val (.int (Int32.ofNat (own_a so n))), .val (.int (Int32.ofNat (own_t tO))), .val (.ref u), .val (.int ng), .val (.int sd), .val (.int td), .val (.int ok), .val (.int (Int32.ofNat cn)), .val (.long (((sb - (48 : Int32)).toInt64 * (own_ten n)) + d1)), .second, s30] [])
                                      exact j579 (((sb - (48 : Int32)).toInt64 * (own_ten n)) + d1) Tr _ Xr Nr er (fun z => absurd (Classical.byContradiction fun y => h559 (hsd.mpr y)) z) (fun _ => rfl)
                                  by_cases h517 : wo = 0
                                  · show own_Go p e below _ Tq (mkF m 517 #[.val (.long q1), .second, .val (.int p2), .val (.int p3), .val (.int p4), .val (.int p5), .val (.ref b1), .val (.long mm), .second, .val (.ref b21), .val (.int (Int32.ofNat n)), .val (.int (Int32.ofNat (20 - n))), .val (.int sm), .val (.int so), .val (.int tO), .val (.int wo), .val (.int sb), .val (.int tb), .val (.int cb), .val (.int (Int32.ofNat k)), .val (.int (Int32.ofNat (own_a so n))), .val (.int (Int32.ofNat (own_t tO))), .val (.ref u), .val (.int ng), .val (.int sd), .val (.int td), .val (.int ok), .val (.int (Int32.ofNat cn)), .val (.long (mm % (own_ten n))), .second, .unset] [(.int wo)])
                                    refine own_go (fun t_ k_ => XS.ifYes Xq.here hx rfl (pc0 := 517) (pc' := 557) rfl (hb hby at_517) rfl (XT.i0_eq_t h517) (by decide) (by decide) k_) ?_
                                    show own_Go p e below _ Tq (mkF m 557 #[.val (.long q1), .second, .val (.int p2), .val (.int p3), .val (.int p4), .val (.int p5), .val (.ref b1), .val (.long mm), .second, .val (.ref b21), .val (.int (Int32.ofNat n)), .val (.int (Int32.ofNat (20 - n))), .val (.int sm), .val (.int so), .val (.int tO), .val (.int wo), .val (.int sb), .val (.int tb), .val (.int cb), .val (.int (Int32.ofNat k)), .val (.int (Int32.ofNat (own_a so n))), .val (.int (Int32.ofNat (own_t tO))), .val (.ref u), .val (.int ng), .val (.int sd), .val (.int td), .val (.int ok), .val (.int (Int32.ofNat cn)), .val (.long (mm % (own_ten n))), .second, .unset] [])
                                    exact j557 (mm % (own_ten n)) (.unset) Tq _ Xq Nq eq (fun _ => rfl) (fun z => absurd h517 z)
                                  · show own_Go p e below _ Tq (mkF m 517 #[.val (.long q1), .second, .val (.int p2), .val (.int p3), .val (.int p4), .val (.int p5), .val (.ref b1), .val (.long mm), .second, .val (.ref b21), .val (.int (Int32.ofNat n)), .val (.int (Int32.ofNat (20 - n))), .val (.int sm), .val (.int so), .val (.int tO), .val (.int wo), .val (.int sb), .val (.int tb), .val (.int cb), .val (.int (Int32.ofNat k)), .val (.int (Int32.ofNat (own_a so n))), .val (.int (Int32.ofNat (own_t tO))), .val (.ref u), .val (.int ng), .val (.int sd), .val (.int td), .val (.int ok), .val (.int (Int32.ofNat cn)), .val (.long (mm % (own_ten n))), .second, .unset] [(.int wo)])
                                    refine own_go (fun t_ k_ => XS.ifNo Xq.here hx rfl (hb hby at_517) rfl (XT.i0_eq_f h517) k_) ?_
                                    show own_Go p e below _ Tq (mkF m 520 #[.val (.long q1), .second, .val (.int p2), .val (.int p3), .val (.int p4), .val (.int p5), .val (.ref b1), .val (.long mm), .second, .val (.ref b21), .val (.int (Int32.ofNat n)), .val (.int (Int32.ofNat (20 - n))), .val (.int sm), .val (.int so), .val (.int tO), .val (.int wo), .val (.int sb), .val (.int tb), .val (.int cb), .val (.int (Int32.ofNat k)), .val (.int (Int32.ofNat (own_a so n))), .val (.int (Int32.ofNat (own_t tO))), .val (.ref u), .val (.int ng), .val (.int sd), .val (.int td), .val (.int ok), .val (.int (Int32.ofNat cn)), .val (.long (mm % (own_ten n))), .second, .unset] [])
                                    have hkk := hk.resolve_left h517
                                    refine own_go (fun t_ k_ => XS.bipush Xq.here hx rfl (hb hby at_520) k_) ?_
                                    show own_Go p e below _ Tq (mkF m 522 #[.val (.long q1), .second, .val (.int p2), .val (.int p3), .val (.int p4), .val (.int p5), .val (.ref b1), .val (.long mm), .second, .val (.ref b21), .val (.int (Int32.ofNat n)), .val (.int (Int32.ofNat (20 - n))), .val (.int sm), .val (.int so), .val (.int tO), .val (.int wo), .val (.int sb), .val (.int tb), .val (.int cb), .val (.int (Int32.ofNat k)), .val (.int (Int32.ofNat (own_a so n))), .val (.int (Int32.ofNat (own_t tO))), .val (.ref u), .val (.int ng), .val (.int sd), .val (.int td), .val (.int ok), .val (.int (Int32.ofNat cn)), .val (.long (mm % (own_ten n))), .second, .unset] [(.int (19 : Int32))])
                                    refine own_go (fun t_ k_ => XS.iload Xq.here hx rfl (hb hby at_522) rfl k_) ?_
                                    show own_Go p e below _ Tq (mkF m 524 #[.val (.long q1), .second, .val (.int p2), .val (.int p3), .val (.int p4), .val (.int p5), .val (.ref b1), .val (.long mm), .second, .val (.ref b21), .val (.int (Int32.ofNat n)), .val (.int (Int32.ofNat (20 - n))), .val (.int sm), .val (.int so), .val (.int tO), .val (.int wo), .val (.int sb), .val (.int tb), .val (.int cb), .val (.int (Int32.ofNat k)), .val (.int (Int32.ofNat (own_a so n))), .val (.int (Int32.ofNat (own_t tO))), .val (.ref u), .val (.int ng), .val (.int sd), .val (.int td), .val (.int ok), .val (.int (Int32.ofNat cn)), .val (.long (mm % (own_ten n))), .second, .unset] [(.int (Int32.ofNat k)), (.int (19 : Int32))])
                                    refine own_go (fun t_ k_ => XS.isub Xq.here hx rfl (hb hby at_524) rfl k_) ?_
                                    show own_Go p e below _ Tq (mkF m 525 #[.val (.long q1), .second, .val (.int p2), .val (.int p3), .val (.int p4), .val (.int p5), .val (.ref b1), .val (.long mm), .second, .val (.ref b21), .val (.int (Int32.ofNat n)), .val (.int (Int32.ofNat (20 - n))), .val (.int sm), .val (.int so), .val (.int tO), .val (.int wo), .val (.int sb), .val (.int tb), .val (.int cb), .val (.int (Int32.ofNat k)), .val (.int (Int32.ofNat (own_a so n))), .val (.int (Int32.ofNat (own_t tO))), .val (.ref u), .val (.int ng), .val (.int sd), .val (.int td), .val (.int ok), .val (.int (Int32.ofNat cn)), .val (.long (mm % (own_ten n))), .second, .unset] [(.int ((19 : Int32) - (Int32.ofNat k)))])
                                    rw [show ((19 : Int32) - (Int32.ofNat k)) = (Int32.ofNat (19 - k)) from own_oSub (a := 19) (b := k) (by omega) (by omega)]
                                    show own_Go p e below _ Tq (mkF m 525 #[.val (.long q1), .second, .val (.int p2), .val (.int p3), .val (.int p4), .val (.int p5), .val (.ref b1), .val (.long mm), .second, .val (.ref b21), .val (.int (Int32.ofNat n)), .val (.int (Int32.ofNat (20 - n))), .val (.int sm), .val (.int so), .val (.int tO), .val (.int wo), .val (.int sb), .val (.int tb), .val (.int cb), .val (.int (Int32.ofNat k)), .val (.int (Int32.ofNat (own_a so n))), .val (.int (Int32.ofNat (own_t tO))), .val (.ref u), .val (.int ng), .val (.int sd), .val (.int td), .val (.int ok), .val (.int (Int32.ofNat cn)), .val (.long (mm % (own_ten n))), .second, .unset] [(.int (Int32.ofNat (19 - k)))])
                                    refine own_go (fun t_ k_ => XS.istore Xq.here hx rfl (hb hby at_525) rfl (l' := #[.val (.long q1), .second, .val (.int p2), .val (.int p3), .val (.int p4), .val (.int p5), .val (.ref b1), .val (.long mm), .second, .val (.ref b21), .val (.int (Int32.ofNat n)), .val (.int (Int32.ofNat (20 - n))), .val (.int sm), .val (.int so), .val (.int tO), .val (.int wo), .val (.int sb), .val (.int tb), .val (.int cb), .val (.int (Int32.ofNat k)), .val (.int (Int32.ofNat (own_a so n))), .val (.int (Int32.ofNat (own_t tO))), .val (.ref u), .val (.int ng), .val (.int sd), .val (.int td), .val (.int ok), .val (.int (Int32.ofNat cn)), .val (.long (mm % (own_ten n))), .second, .val (.int (Int32.ofNat (19 - k)))]) rfl k_) ?_
                                    show own_Go p e below _ Tq (mkF m 527 #[.val (.long q1), .second, .val (.int p2), .val (.int p3), .val (.int p4), .val (.int p5), .val (.ref b1), .val (.long mm), .second, .val (.ref b21), .val (.int (Int32.ofNat n)), .val (.int (Int32.ofNat (20 - n))), .val (.int sm), .val (.int so), .val (.int tO), .val (.int wo), .val (.int sb), .val (.int tb), .val (.int cb), .val (.int (Int32.ofNat k)), .val (.int (Int32.ofNat (own_a so n))), .val (.int (Int32.ofNat (own_t tO))), .val (.ref u), .val (.int ng), .val (.int sd), .val (.int td), .val (.int ok), .val (.int (Int32.ofNat cn)), .val (.long (mm % (own_ten n))), .second, .val (.int (Int32.ofNat (19 - k)))] [])
                                    refine own_go (fun t_ k_ => XS.lload Xq.here hx rfl (hb hby at_527) rfl k_) ?_
                                    show own_Go p e below _ Tq (mkF m 529 #[.val (.long q1), .second, .val (.int p2), .val (.int p3), .val (.int p4), .val (.int p5), .val (.ref b1), .val (.long mm), .second, .val (.ref b21), .val (.int (Int32.ofNat n)), .val (.int (Int32.ofNat (20 - n))), .val (.int sm), .val (.int so), .val (.int tO), .val (.int wo), .val (.int sb), .val (.int tb), .val (.int cb), .val (.int (Int32.ofNat k)), .val (.int (Int32.ofNat (own_a so n))), .val (.int (Int32.ofNat (own_t tO))), .val (.ref u), .val (.int ng), .val (.int sd), .val (.int td), .val (.int ok), .val (.int (Int32.ofNat cn)), .val (.long (mm % (own_ten n))), .second, .val (.int (Int32.ofNat (19 - k)))] [(.long (mm % (own_ten n)))])
                                    refine own_go (fun t_ k_ => XS.iload Xq.here hx rfl (hb hby at_529) rfl k_) ?_
                                    show own_Go p e below _ Tq (mkF m 531 #[.val (.long q1), .second, .val (.int p2), .val (.int p3), .val (.int p4), .val (.int p5), .val (.ref b1), .val (.long mm), .second, .val (.ref b21), .val (.int (Int32.ofNat n)), .val (.int (Int32.ofNat (20 - n))), .val (.int sm), .val (.int so), .val (.int tO), .val (.int wo), .val (.int sb), .val (.int tb), .val (.int cb), .val (.int (Int32.ofNat k)), .val (.int (Int32.ofNat (own_a so n))), .val (.int (Int32.ofNat (own_t tO))), .val (.ref u), .val (.int ng), .val (.int sd), .val (.int td), .val (.int ok), .val (.int (Int32.ofNat cn)), .val (.long (mm % (own_ten n))), .second, .val (.int (Int32.ofNat (19 - k)))] [(.int cb), (.long (mm % (own_ten n)))])
                                    refine own_go (fun t_ k_ => XS.bipush Xq.here hx rfl (hb hby at_531) k_) ?_
                                    show own_Go p e below _ Tq (mkF m 533 #[.val (.long q1), .second, .val (.int p2), .val (.int p3), .val (.int p4), .val (.int p5), .val (.ref b1), .val (.long mm), .second, .val (.ref b21), .val (.int (Int32.ofNat n)), .val (.int (Int32.ofNat (20 - n))), .val (.int sm), .val (.int so), .val (.int tO), .val (.int wo), .val (.int sb), .val (.int tb), .val (.int cb), .val (.int (Int32.ofNat k)), .val (.int (Int32.ofNat (own_a so n))), .val (.int (Int32.ofNat (own_t tO))), .val (.ref u), .val (.int ng), .val (.int sd), .val (.int td), .val (.int ok), .val (.int (Int32.ofNat cn)), .val (.long (mm % (own_ten n))), .second, .val (.int (Int32.ofNat (19 - k)))] [(.int (48 : Int32)), (.int cb), (.long (mm % (own_ten n)))])
                                    refine own_go (fun t_ k_ => XS.isub Xq.here hx rfl (hb hby at_533) rfl k_) ?_
                                    show own_Go p e below _ Tq (mkF m 534 #[.val (.long q1), .second, .val (.int p2), .val (.int p3), .val (.int p4), .val (.int p5), .val (.ref b1), .val (.long mm), .second, .val (.ref b21), .val (.int (Int32.ofNat n)), .val (.int (Int32.ofNat (20 - n))), .val (.int sm), .val (.int so), .val (.int tO), .val (.int wo), .val (.int sb), .val (.int tb), .val (.int cb), .val (.int (Int32.ofNat k)), .val (.int (Int32.ofNat (own_a so n))), .val (.int (Int32.ofNat (own_t tO))), .val (.ref u), .val (.int ng), .val (.int sd), .val (.int td), .val (.int ok), .val (.int (Int32.ofNat cn)), .val (.long (mm % (own_ten n))), .second, .val (.int (Int32.ofNat (19 - k)))] [(.int (cb - (48 : Int32))), (.long (mm % (own_ten n)))])
                                    refine own_go (fun t_ k_ => XS.i2l Xq.here hx rfl (hb hby at_534) rfl k_) ?_
                                    show own_Go p e below _ Tq (mkF m 535 #[.val (.long q1), .second, .val (.int p2), .val (.int p3), .val (.int p4), .val (.int p5), .val (.ref b1), .val (.long mm), .second, .val (.ref b21), .val (.int (Int32.ofNat n)), .val (.int (Int32.ofNat (20 - n))), .val (.int sm), .val (.int so), .val (.int tO), .val (.int wo), .val (.int sb), .val (.int tb), .val (.int cb), .val (.int (Int32.ofNat k)), .val (.int (Int32.ofNat (own_a so n))), .val (.int (Int32.ofNat (own_t tO))), .val (.ref u), .val (.int ng), .val (.int sd), .val (.int td), .val (.int ok), .val (.int (Int32.ofNat cn)), .val (.long (mm % (own_ten n))), .second, .val (.int (Int32.ofNat (19 - k)))] [(.long (cb - (48 : Int32)).toInt64), (.long (mm % (own_ten n)))])
                                    refine own_go (fun t_ k_ => XS.lload Xq.here hx rfl (hb hby at_535) rfl k_) ?_
                                    show own_Go p e below _ Tq (mkF m 537 #[.val (.long q1), .second, .val (.int p2), .val (.int p3), .val (.int p4), .val (.int p5), .val (.ref b1), .val (.long mm), .second, .val (.ref b21), .val (.int (Int32.ofNat n)), .val (.int (Int32.ofNat (20 - n))), .val (.int sm), .val (.int so), .val (.int tO), .val (.int wo), .val (.int sb), .val (.int tb), .val (.int cb), .val (.int (Int32.ofNat k)), .val (.int (Int32.ofNat (own_a so n))), .val (.int (Int32.ofNat (own_t tO))), .val (.ref u), .val (.int ng), .val (.int sd), .val (.int td), .val (.int ok), .val (.int (Int32.ofNat cn)), .val (.long (mm % (own_ten n))), .second, .val (.int (Int32.ofNat (19 - k)))] [(.long mm), (.long (cb - (48 : Int32)).toInt64), (.long (mm % (own_ten n)))])
                                    refine own_go (fun t_ k_ => XS.aload Xq.here hx rfl (hb hby at_537) rfl rfl k_) ?_
                                    show own_Go p e below _ Tq (mkF m 539 #[.val (.long q1), .second, .val (.int p2), .val (.int p3), .val (.int p4), .val (.int p5), .val (.ref b1), .val (.long mm), .second, .val (.ref b21), .val (.int (Int32.ofNat n)), .val (.int (Int32.ofNat (20 - n))), .val (.int sm), .val (.int so), .val (.int tO), .val (.int wo), .val (.int sb), .val (.int tb), .val (.int cb), .val (.int (Int32.ofNat k)), .val (.int (Int32.ofNat (own_a so n))), .val (.int (Int32.ofNat (own_t tO))), .val (.ref u), .val (.int ng), .val (.int sd), .val (.int td), .val (.int ok), .val (.int (Int32.ofNat cn)), .val (.long (mm % (own_ten n))), .second, .val (.int (Int32.ofNat (19 - k)))] [(.ref b1), (.long mm), (.long (cb - (48 : Int32)).toInt64), (.long (mm % (own_ten n)))])
                                    refine own_go (fun t_ k_ => XS.iload Xq.here hx rfl (hb hby at_539) rfl k_) ?_
                                    show own_Go p e below _ Tq (mkF m 541 #[.val (.long q1), .second, .val (.int p2), .val (.int p3), .val (.int p4), .val (.int p5), .val (.ref b1), .val (.long mm), .second, .val (.ref b21), .val (.int (Int32.ofNat n)), .val (.int (Int32.ofNat (20 - n))), .val (.int sm), .val (.int so), .val (.int tO), .val (.int wo), .val (.int sb), .val (.int tb), .val (.int cb), .val (.int (Int32.ofNat k)), .val (.int (Int32.ofNat (own_a so n))), .val (.int (Int32.ofNat (own_t tO))), .val (.ref u), .val (.int ng), .val (.int sd), .val (.int td), .val (.int ok), .val (.int (Int32.ofNat cn)), .val (.long (mm % (own_ten n))), .second, .val (.int (Int32.ofNat (19 - k)))] [(.int (Int32.ofNat (19 - k))), (.ref b1), (.long mm), (.long (cb - (48 : Int32)).toInt64), (.long (mm % (own_ten n)))])
                                    refine own_go (own_ldLA Xq hx hZ eq (Ls := #[.val (.long q1), .second, .val (.int p2), .val (.int p3), .val (.int p4), .val (.int p5), .val (.ref b1), .val (.long mm), .second, .val (.ref b21), .val (.int (Int32.ofNat n)), .val (.int (Int32.ofNat (20 - n))), .val (.int sm), .val (.int so), .val (.int tO), .val (.int wo), .val (.int sb), .val (.int tb), .val (.int cb), .val (.int (Int32.ofNat k)), .val (.int (Int32.ofNat (own_a so n))), .val (.int (Int32.ofNat (own_t tO))), .val (.ref u), .val (.int ng), .val (.int sd), .val (.int td), .val (.int ok), .val (.int (Int32.ofNat cn)), .val (.long (mm % (own_ten n))), .second, .val (.int (Int32.ofNat (19 - k)))]) (rest := [(.long mm), (.long (cb - (48 : Int32)).toInt64), (.long (mm % (own_ten n)))]) (Vte.keep K24 nin0) (by decide) (19 - k) (by omega) (hb hby at_541)) ?_
                                    show own_Go p e below _ Tq (mkF m 542 #[.val (.long q1), .second, .val (.int p2), .val (.int p3), .val (.int p4), .val (.int p5), .val (.ref b1), .val (.long mm), .second, .val (.ref b21), .val (.int (Int32.ofNat n)), .val (.int (Int32.ofNat (20 - n))), .val (.int sm), .val (.int so), .val (.int tO), .val (.int wo), .val (.int sb), .val (.int tb), .val (.int cb), .val (.int (Int32.ofNat k)), .val (.int (Int32.ofNat (own_a so n))), .val (.int (Int32.ofNat (own_t tO))), .val (.ref u), .val (.int ng), .val (.int sd), .val (.int td), .val (.int ok), .val (.int (Int32.ofNat cn)), .val (.long (mm % (own_ten n))), .second, .val (.int (Int32.ofNat (19 - k)))] [(.long (own_ten (19 - k))), (.long mm), (.long (cb - (48 : Int32)).toInt64), (.long (mm % (own_ten n)))])
                                    refine own_go (fun t_ k_ => XS.ldiv Xq.here hx rfl (hb hby at_542) rfl (own_tenNe (by omega)) k_) ?_
                                    show own_Go p e below _ Tq (mkF m 543 #[.val (.long q1), .second, .val (.int p2), .val (.int p3), .val (.int p4), .val (.int p5), .val (.ref b1), .val (.long mm), .second, .val (.ref b21), .val (.int (Int32.ofNat n)), .val (.int (Int32.ofNat (20 - n))), .val (.int sm), .val (.int so), .val (.int tO), .val (.int wo), .val (.int sb), .val (.int tb), .val (.int cb), .val (.int (Int32.ofNat k)), .val (.int (Int32.ofNat (own_a so n))), .val (.int (Int32.ofNat (own_t tO))), .val (.ref u), .val (.int ng), .val (.int sd), .val (.int td), .val (.int ok), .val (.int (Int32.ofNat cn)), .val (.long (mm % (own_ten n))), .second, .val (.int (Int32.ofNat (19 - k)))] [(.long (mm / (own_ten (19 - k)))), (.long (cb - (48 : Int32)).toInt64), (.long (mm % (own_ten n)))])
                                    refine own_go (fun t_ k_ => Xq.ldc2Long hx hown (mvT hZ (own_w hw 1 rfl)) (g := (mkF m 543 #[.val (.long q1), .second, .val (.int p2), .val (.int p3), .val (.int p4), .val (.int p5), .val (.ref b1), .val (.long mm), .second, .val (.ref b21), .val (.int (Int32.ofNat n)), .val (.int (Int32.ofNat (20 - n))), .val (.int sm), .val (.int so), .val (.int tO), .val (.int wo), .val (.int sb), .val (.int tb), .val (.int cb), .val (.int (Int32.ofNat k)), .val (.int (Int32.ofNat (own_a so n))), .val (.int (Int32.ofNat (own_t tO))), .val (.ref u), .val (.int ng), .val (.int sd), .val (.int td), .val (.int ok), .val (.int (Int32.ofNat cn)), .val (.long (mm % (own_ten n))), .second, .val (.int (Int32.ofNat (19 - k)))] [(.long (mm / (own_ten (19 - k)))), (.long (cb - (48 : Int32)).toInt64), (.long (mm % (own_ten n)))])) rfl (hb hby at_543) t_ k_) ?_
                                    show own_Go p e below _ Tq (mkF m 546 #[.val (.long q1), .second, .val (.int p2), .val (.int p3), .val (.int p4), .val (.int p5), .val (.ref b1), .val (.long mm), .second, .val (.ref b21), .val (.int (Int32.ofNat n)), .val (.int (Int32.ofNat (20 - n))), .val (.int sm), .val (.int so), .val (.int tO), .val (.int wo), .val (.int sb), .val (.int tb), .val (.int cb), .val (.int (Int32.ofNat k)), .val (.int (Int32.ofNat (own_a so n))), .val (.int (Int32.ofNat (own_t tO))), .val (.ref u), .val (.int ng), .val (.int sd), .val (.int td), .val (.int ok), .val (.int (Int32.ofNat cn)), .val (.long (mm % (own_ten n))), .second, .val (.int (Int32.ofNat (19 - k)))] [(.long (10 : Int64)), (.long (mm / (own_ten (19 - k)))), (.long (cb - (48 : Int32)).toInt64), (.long (mm % (own_ten n)))])
                                    refine own_go (fun t_ k_ => own_lrem Xq hx rfl (hb hby at_546) rfl (by decide) k_) ?_
                                    show own_Go p e below _ Tq (mkF m 547 #[.val (.long q1), .second, .val (.int p2), .val (.int p3), .val (.int p4), .val (.int p5), .val (.ref b1), .val (.long mm), .second, .val (.ref b21), .val (.int (Int32.ofNat n)), .val (.int (Int32.ofNat (20 - n))), .val (.int sm), .val (.int so), .val (.int tO), .val (.int wo), .val (.int sb), .val (.int tb), .val (.int cb), .val (.int (Int32.ofNat k)), .val (.int (Int32.ofNat (own_a so n))), .val (.int (Int32.ofNat (own_t tO))), .val (.ref u), .val (.int ng), .val (.int sd), .val (.int td), .val (.int ok), .val (.int (Int32.ofNat cn)), .val (.long (mm % (own_ten n))), .second, .val (.int (Int32.ofNat (19 - k)))] [(.long ((mm / (own_ten (19 - k))) % (10 : Int64))), (.long (cb - (48 : Int32)).toInt64), (.long (mm % (own_ten n)))])
                                    refine own_go (fun t_ k_ => XS.lsub Xq.here hx rfl (hb hby at_547) rfl k_) ?_
                                    show own_Go p e below _ Tq (mkF m 548 #[.val (.long q1), .second, .val (.int p2), .val (.int p3), .val (.int p4), .val (.int p5), .val (.ref b1), .val (.long mm), .second, .val (.ref b21), .val (.int (Int32.ofNat n)), .val (.int (Int32.ofNat (20 - n))), .val (.int sm), .val (.int so), .val (.int tO), .val (.int wo), .val (.int sb), .val (.int tb), .val (.int cb), .val (.int (Int32.ofNat k)), .val (.int (Int32.ofNat (own_a so n))), .val (.int (Int32.ofNat (own_t tO))), .val (.ref u), .val (.int ng), .val (.int sd), .val (.int td), .val (.int ok), .val (.int (Int32.ofNat cn)), .val (.long (mm % (own_ten n))), .second, .val (.int (Int32.ofNat (19 - k)))] [(.long ((cb - (48 : Int32)).toInt64 - ((mm / (own_ten (19 - k))) % (10 : Int64)))), (.long (mm % (own_ten n)))])
                                    refine own_go (fun t_ k_ => XS.aload Xq.here hx rfl (hb hby at_548) rfl rfl k_) ?_
                                    show own_Go p e below _ Tq (mkF m 550 #[.val (.long q1), .second, .val (.int p2), .val (.int p3), .val (.int p4), .val (.int p5), .val (.ref b1), .val (.long mm), .second, .val (.ref b21), .val (.int (Int32.ofNat n)), .val (.int (Int32.ofNat (20 - n))), .val (.int sm), .val (.int so), .val (.int tO), .val (.int wo), .val (.int sb), .val (.int tb), .val (.int cb), .val (.int (Int32.ofNat k)), .val (.int (Int32.ofNat (own_a so n))), .val (.int (Int32.ofNat (own_t tO))), .val (.ref u), .val (.int ng), .val (.int sd), .val (.int td), .val (.int ok), .val (.int (Int32.ofNat cn)), .val (.long (mm % (own_ten n))), .second, .val (.int (Int32.ofNat (19 - k)))] [(.ref b1), (.long ((cb - (48 : Int32)).toInt64 - ((mm / (own_ten (19 - k))) % (10 : Int64)))), (.long (mm % (own_ten n)))])
                                    refine own_go (fun t_ k_ => XS.iload Xq.here hx rfl (hb hby at_550) rfl k_) ?_
                                    show own_Go p e below _ Tq (mkF m 552 #[.val (.long q1), .second, .val (.int p2), .val (.int p3), .val (.int p4), .val (.int p5), .val (.ref b1), .val (.long mm), .second, .val (.ref b21), .val (.int (Int32.ofNat n)), .val (.int (Int32.ofNat (20 - n))), .val (.int sm), .val (.int so), .val (.int tO), .val (.int wo), .val (.int sb), .val (.int tb), .val (.int cb), .val (.int (Int32.ofNat k)), .val (.int (Int32.ofNat (own_a so n))), .val (.int (Int32.ofNat (own_t tO))), .val (.ref u), .val (.int ng), .val (.int sd), .val (.int td), .val (.int ok), .val (.int (Int32.ofNat cn)), .val (.long (mm % (own_ten n))), .second, .val (.int (Int32.ofNat (19 - k)))] [(.int (Int32.ofNat (19 - k))), (.ref b1), (.long ((cb - (48 : Int32)).toInt64 - ((mm / (own_ten (19 - k))) % (10 : Int64)))), (.long (mm % (own_ten n)))])
                                    refine own_go (own_ldLA Xq hx hZ eq (Ls := #[.val (.long q1), .second, .val (.int p2), .val (.int p3), .val (.int p4), .val (.int p5), .val (.ref b1), .val (.long mm), .second, .val (.ref b21), .val (.int (Int32.ofNat n)), .val (.int (Int32.ofNat (20 - n))), .val (.int sm), .val (.int so), .val (.int tO), .val (.int wo), .val (.int sb), .val (.int tb), .val (.int cb), .val (.int (Int32.ofNat k)), .val (.int (Int32.ofNat (own_a so n))), .val (.int (Int32.ofNat (own_t tO))), .val (.ref u), .val (.int ng), .val (.int sd), .val (.int td), .val (.int ok), .val (.int (Int32.ofNat cn)), .val (.long (mm % (own_ten n))), .second, .val (.int (Int32.ofNat (19 - k)))]) (rest := [(.long ((cb - (48 : Int32)).toInt64 - ((mm / (own_ten (19 - k))) % (10 : Int64)))), (.long (mm % (own_ten n)))]) (Vte.keep K24 nin0) (by decide) (19 - k) (by omega) (hb hby at_552)) ?_
                                    show own_Go p e below _ Tq (mkF m 553 #[.val (.long q1), .second, .val (.int p2), .val (.int p3), .val (.int p4), .val (.int p5), .val (.ref b1), .val (.long mm), .second, .val (.ref b21), .val (.int (Int32.ofNat n)), .val (.int (Int32.ofNat (20 - n))), .val (.int sm), .val (.int so), .val (.int tO), .val (.int wo), .val (.int sb), .val (.int tb), .val (.int cb), .val (.int (Int32.ofNat k)), .val (.int (Int32.ofNat (own_a so n))), .val (.int (Int32.ofNat (own_t tO))), .val (.ref u), .val (.int ng), .val (.int sd), .val (.int td), .val (.int ok), .val (.int (Int32.ofNat cn)), .val (.long (mm % (own_ten n))), .second, .val (.int (Int32.ofNat (19 - k)))] [(.long (own_ten (19 - k))), (.long ((cb - (48 : Int32)).toInt64 - ((mm / (own_ten (19 - k))) % (10 : Int64)))), (.long (mm % (own_ten n)))])
                                    refine own_go (fun t_ k_ => XS.lmul Xq.here hx rfl (hb hby at_553) rfl k_) ?_
                                    show own_Go p e below _ Tq (mkF m 554 #[.val (.long q1), .second, .val (.int p2), .val (.int p3), .val (.int p4), .val (.int p5), .val (.ref b1), .val (.long mm), .second, .val (.ref b21), .val (.int (Int32.ofNat n)), .val (.int (Int32.ofNat (20 - n))), .val (.int sm), .val (.int so), .val (.int tO), .val (.int wo), .val (.int sb), .val (.int tb), .val (.int cb), .val (.int (Int32.ofNat k)), .val (.int (Int32.ofNat (own_a so n))), .val (.int (Int32.ofNat (own_t tO))), .val (.ref u), .val (.int ng), .val (.int sd), .val (.int td), .val (.int ok), .val (.int (Int32.ofNat cn)), .val (.long (mm % (own_ten n))), .second, .val (.int (Int32.ofNat (19 - k)))] [(.long (((cb - (48 : Int32)).toInt64 - ((mm / (own_ten (19 - k))) % (10 : Int64))) * (own_ten (19 - k)))), (.long (mm % (own_ten n)))])
                                    refine own_go (fun t_ k_ => XS.ladd Xq.here hx rfl (hb hby at_554) rfl k_) ?_
                                    show own_Go p e below _ Tq (mkF m 555 #[.val (.long q1), .second, .val (.int p2), .val (.int p3), .val (.int p4), .val (.int p5), .val (.ref b1), .val (.long mm), .second, .val (.ref b21), .val (.int (Int32.ofNat n)), .val (.int (Int32.ofNat (20 - n))), .val (.int sm), .val (.int so), .val (.int tO), .val (.int wo), .val (.int sb), .val (.int tb), .val (.int cb), .val (.int (Int32.ofNat k)), .val (.int (Int32.ofNat (own_a so n))), .val (.int (Int32.ofNat (own_t tO))), .val (.ref u), .val (.int ng), .val (.int sd), .val (.int td), .val (.int ok), .val (.int (Int32.ofNat cn)), .val (.long (mm % (own_ten n))), .second, .val (.int (Int32.ofNat (19 - k)))] [(.long ((mm % (own_ten n)) + (((cb - (48 : Int32)).toInt64 - ((mm / (own_ten (19 - k))) % (10 : Int64))) * (own_ten (19 - k)))))])
                                    refine own_go (fun t_ k_ => XS.lstore Xq.here hx rfl (hb hby at_555) rfl (l' := #[.val (.long q1), .second, .val (.int p2), .val (.int p3), .val (.int p4), .val (.int p5), .val (.ref b1), .val (.long mm), .second, .val (.ref b21), .val (.int (Int32.ofNat n)), .val (.int (Int32.ofNat (20 - n))), .val (.int sm), .val (.int so), .val (.int tO), .val (.int wo), .val (.int sb), .val (.int tb), .val (.int cb), .val (.int (Int32.ofNat k)), .val (.int (Int32.ofNat (own_a so n))), .val (.int (Int32.ofNat (own_t tO))), .val (.ref u), .val (.int ng), .val (.int sd), .val (.int td), .val (.int ok), .val (.int (Int32.ofNat cn)), .val (.long ((mm % (own_ten n)) + (((cb - (48 : Int32)).toInt64 - ((mm / (own_ten (19 - k))) % (10 : Int64))) * (own_ten (19 - k))))), .second, .val (.int (Int32.ofNat (19 - k)))]) rfl k_) ?_
                                    show own_Go p e below _ Tq (mkF m 557 #[.val (.long q1), .second, .val (.int p2), .val (.int p3), .val (.int p4), .val (.int p5), .val (.ref b1), .val (.long mm), .second, .val (.ref b21), .val (.int (Int32.ofNat n)), .val (.int (Int32.ofNat (20 - n))), .val (.int sm), .val (.int so), .val (.int tO), .val (.int wo), .val (.int sb), .val (.int tb), .val (.int cb), .val (.int (Int32.ofNat k)), .val (.int (Int32.ofNat (own_a so n))), .val (.int (Int32.ofNat (own_t tO))), .val (.ref u), .val (.int ng), .val (.int sd), .val (.int td), .val (.int ok), .val (.int (Int32.ofNat cn)), .val (.long ((mm % (own_ten n)) + (((cb - (48 : Int32)).toInt64 - ((mm / (own_ten (19 - k))) % (10 : Int64))) * (own_ten (19 - k))))), .second, .val (.int (Int32.ofNat (19 - k)))] [])
                                    exact j557 ((mm % (own_ten n)) + (((cb - (48 : Int32)).toInt64 - ((mm / (own_ten (19 - k))) % (10 : Int64))) * (own_ten (19 - k)))) (.val (.int (Int32.ofNat (19 - k)))) Tq _ Xq Nq eq (fun z => absurd z h517) (fun _ => rfl)
                          by_cases h455 : sd = 0
                          · show own_Go p e below _ To (mkF m 455 #[.val (.long q1), .second, .val (.int p2), .val (.int p3), .val (.int p4), .val (.int p5), .val (.ref b1), .val (.long mm), .second, .val (.ref b21), .val (.int (Int32.ofNat n)), .val (.int (Int32.ofNat (20 - n))), .val (.int sm), .val (.int so), .val (.int tO), .val (.int wo), .val (.int sb), .val (.int tb), .val (.int cb), .val (.int (Int32.ofNat k)), .val (.int (Int32.ofNat (own_a so n))), .val (.int (Int32.ofNat (own_t tO))), .val r, .val (.int ng), .val (.int sd), .val (.int td), .val (.int ok), .unset, .unset, .unset, .unset] [(.int sd), (.int (Int32.ofNat n))])
                            refine own_go (fun t_ k_ => XS.ifYes Xo.here hx rfl (pc0 := 455) (pc' := 462) rfl (hb hby at_455) rfl (XT.i0_eq_t h455) (by decide) (by decide) k_) ?_
                            show own_Go p e below _ To (mkF m 462 #[.val (.long q1), .second, .val (.int p2), .val (.int p3), .val (.int p4), .val (.int p5), .val (.ref b1), .val (.long mm), .second, .val (.ref b21), .val (.int (Int32.ofNat n)), .val (.int (Int32.ofNat (20 - n))), .val (.int sm), .val (.int so), .val (.int tO), .val (.int wo), .val (.int sb), .val (.int tb), .val (.int cb), .val (.int (Int32.ofNat k)), .val (.int (Int32.ofNat (own_a so n))), .val (.int (Int32.ofNat (own_t tO))), .val r, .val (.int ng), .val (.int sd), .val (.int td), .val (.int ok), .unset, .unset, .unset, .unset] [(.int (Int32.ofNat n))])
                            refine own_go (fun t_ k_ => XS.iconst Xo.here hx rfl (hb hby at_462) k_) ?_
                            show own_Go p e below _ To (mkF m 463 #[.val (.long q1), .second, .val (.int p2), .val (.int p3), .val (.int p4), .val (.int p5), .val (.ref b1), .val (.long mm), .second, .val (.ref b21), .val (.int (Int32.ofNat n)), .val (.int (Int32.ofNat (20 - n))), .val (.int sm), .val (.int so), .val (.int tO), .val (.int wo), .val (.int sb), .val (.int tb), .val (.int cb), .val (.int (Int32.ofNat k)), .val (.int (Int32.ofNat (own_a so n))), .val (.int (Int32.ofNat (own_t tO))), .val r, .val (.int ng), .val (.int sd), .val (.int td), .val (.int ok), .unset, .unset, .unset, .unset] [(.int (0 : Int32)), (.int (Int32.ofNat n))])
                            refine own_go (fun t_ k_ => XS.iadd Xo.here hx rfl (hb hby at_463) rfl k_) ?_
                            show own_Go p e below _ To (mkF m 464 #[.val (.long q1), .second, .val (.int p2), .val (.int p3), .val (.int p4), .val (.int p5), .val (.ref b1), .val (.long mm), .second, .val (.ref b21), .val (.int (Int32.ofNat n)), .val (.int (Int32.ofNat (20 - n))), .val (.int sm), .val (.int so), .val (.int tO), .val (.int wo), .val (.int sb), .val (.int tb), .val (.int cb), .val (.int (Int32.ofNat k)), .val (.int (Int32.ofNat (own_a so n))), .val (.int (Int32.ofNat (own_t tO))), .val r, .val (.int ng), .val (.int sd), .val (.int td), .val (.int ok), .unset, .unset, .unset, .unset] [(.int ((Int32.ofNat n) + (0 : Int32)))])
                            rw [show ((Int32.ofNat n) + (0 : Int32)) = (Int32.ofNat (n + 0)) from own_oAdd n 0]
                            show own_Go p e below _ To (mkF m 464 #[.val (.long q1), .second, .val (.int p2), .val (.int p3), .val (.int p4), .val (.int p5), .val (.ref b1), .val (.long mm), .second, .val (.ref b21), .val (.int (Int32.ofNat n)), .val (.int (Int32.ofNat (20 - n))), .val (.int sm), .val (.int so), .val (.int tO), .val (.int wo), .val (.int sb), .val (.int tb), .val (.int cb), .val (.int (Int32.ofNat k)), .val (.int (Int32.ofNat (own_a so n))), .val (.int (Int32.ofNat (own_t tO))), .val r, .val (.int ng), .val (.int sd), .val (.int td), .val (.int ok), .unset, .unset, .unset, .unset] [(.int (Int32.ofNat (n + 0)))])
                            refine own_go (fun t_ k_ => XS.iload Xo.here hx rfl (hb hby at_464) rfl k_) ?_
                            show own_Go p e below _ To (mkF m 466 #[.val (.long q1), .second, .val (.int p2), .val (.int p3), .val (.int p4), .val (.int p5), .val (.ref b1), .val (.long mm), .second, .val (.ref b21), .val (.int (Int32.ofNat n)), .val (.int (Int32.ofNat (20 - n))), .val (.int sm), .val (.int so), .val (.int tO), .val (.int wo), .val (.int sb), .val (.int tb), .val (.int cb), .val (.int (Int32.ofNat k)), .val (.int (Int32.ofNat (own_a so n))), .val (.int (Int32.ofNat (own_t tO))), .val r, .val (.int ng), .val (.int sd), .val (.int td), .val (.int ok), .unset, .unset, .unset, .unset] [(.int td), (.int (Int32.ofNat (n + 0)))])
                            by_cases h466 : td = 0
                            · show own_Go p e below _ To (mkF m 466 #[.val (.long q1), .second, .val (.int p2), .val (.int p3), .val (.int p4), .val (.int p5), .val (.ref b1), .val (.long mm), .second, .val (.ref b21), .val (.int (Int32.ofNat n)), .val (.int (Int32.ofNat (20 - n))), .val (.int sm), .val (.int so), .val (.int tO), .val (.int wo), .val (.int sb), .val (.int tb), .val (.int cb), .val (.int (Int32.ofNat k)), .val (.int (Int32.ofNat (own_a so n))), .val (.int (Int32.ofNat (own_t tO))), .val r, .val (.int ng), .val (.int sd), .val (.int td), .val (.int ok), .unset, .unset, .unset, .unset] [(.int td), (.int (Int32.ofNat (n + 0)))])
                              refine own_go (fun t_ k_ => XS.ifYes Xo.here hx rfl (pc0 := 466) (pc' := 473) rfl (hb hby at_466) rfl (XT.i0_eq_t h466) (by decide) (by decide) k_) ?_
                              show own_Go p e below _ To (mkF m 473 #[.val (.long q1), .second, .val (.int p2), .val (.int p3), .val (.int p4), .val (.int p5), .val (.ref b1), .val (.long mm), .second, .val (.ref b21), .val (.int (Int32.ofNat n)), .val (.int (Int32.ofNat (20 - n))), .val (.int sm), .val (.int so), .val (.int tO), .val (.int wo), .val (.int sb), .val (.int tb), .val (.int cb), .val (.int (Int32.ofNat k)), .val (.int (Int32.ofNat (own_a so n))), .val (.int (Int32.ofNat (own_t tO))), .val r, .val (.int ng), .val (.int sd), .val (.int td), .val (.int ok), .unset, .unset, .unset, .unset] [(.int (Int32.ofNat (n + 0)))])
                              refine own_go (fun t_ k_ => XS.iconst Xo.here hx rfl (hb hby at_473) k_) ?_
                              show own_Go p e below _ To (mkF m 474 #[.val (.long q1), .second, .val (.int p2), .val (.int p3), .val (.int p4), .val (.int p5), .val (.ref b1), .val (.long mm), .second, .val (.ref b21), .val (.int (Int32.ofNat n)), .val (.int (Int32.ofNat (20 - n))), .val (.int sm), .val (.int so), .val (.int tO), .val (.int wo), .val (.int sb), .val (.int tb), .val (.int cb), .val (.int (Int32.ofNat k)), .val (.int (Int32.ofNat (own_a so n))), .val (.int (Int32.ofNat (own_t tO))), .val r, .val (.int ng), .val (.int sd), .val (.int td), .val (.int ok), .unset, .unset, .unset, .unset] [(.int (0 : Int32)), (.int (Int32.ofNat (n + 0)))])
                              refine own_go (fun t_ k_ => XS.iadd Xo.here hx rfl (hb hby at_474) rfl k_) ?_
                              show own_Go p e below _ To (mkF m 475 #[.val (.long q1), .second, .val (.int p2), .val (.int p3), .val (.int p4), .val (.int p5), .val (.ref b1), .val (.long mm), .second, .val (.ref b21), .val (.int (Int32.ofNat n)), .val (.int (Int32.ofNat (20 - n))), .val (.int sm), .val (.int so), .val (.int tO), .val (.int wo), .val (.int sb), .val (.int tb), .val (.int cb), .val (.int (Int32.ofNat k)), .val (.int (Int32.ofNat (own_a so n))), .val (.int (Int32.ofNat (own_t tO))), .val r, .val (.int ng), .val (.int sd), .val (.int td), .val (.int ok), .unset, .unset, .unset, .unset] [(.int ((Int32.ofNat (n + 0)) + (0 : Int32)))])
                              rw [show ((Int32.ofNat (n + 0)) + (0 : Int32)) = (Int32.ofNat ((n + 0) + 0)) from own_oAdd (n + 0) 0]
                              show own_Go p e below _ To (mkF m 475 #[.val (.long q1), .second, .val (.int p2), .val (.int p3), .val (.int p4), .val (.int p5), .val (.ref b1), .val (.long mm), .second, .val (.ref b21), .val (.int (Int32.ofNat n)), .val (.int (Int32.ofNat (20 - n))), .val (.int sm), .val (.int so), .val (.int tO), .val (.int wo), .val (.int sb), .val (.int tb), .val (.int cb), .val (.int (Int32.ofNat k)), .val (.int (Int32.ofNat (own_a so n))), .val (.int (Int32.ofNat (own_t tO))), .val r, .val (.int ng), .val (.int sd), .val (.int td), .val (.int ok), .unset, .unset, .unset, .unset] [(.int (Int32.ofNat ((n + 0) + 0)))])
                              exact j475 (((n + 0) + 0)) To _ Xo No eo (by unfold own_cnt; rw [if_neg (hsd.mp h455), if_neg (htd.mp h466)])
                            · show own_Go p e below _ To (mkF m 466 #[.val (.long q1), .second, .val (.int p2), .val (.int p3), .val (.int p4), .val (.int p5), .val (.ref b1), .val (.long mm), .second, .val (.ref b21), .val (.int (Int32.ofNat n)), .val (.int (Int32.ofNat (20 - n))), .val (.int sm), .val (.int so), .val (.int tO), .val (.int wo), .val (.int sb), .val (.int tb), .val (.int cb), .val (.int (Int32.ofNat k)), .val (.int (Int32.ofNat (own_a so n))), .val (.int (Int32.ofNat (own_t tO))), .val r, .val (.int ng), .val (.int sd), .val (.int td), .val (.int ok), .unset, .unset, .unset, .unset] [(.int td), (.int (Int32.ofNat (n + 0)))])
                              refine own_go (fun t_ k_ => XS.ifNo Xo.here hx rfl (hb hby at_466) rfl (XT.i0_eq_f h466) k_) ?_
                              show own_Go p e below _ To (mkF m 469 #[.val (.long q1), .second, .val (.int p2), .val (.int p3), .val (.int p4), .val (.int p5), .val (.ref b1), .val (.long mm), .second, .val (.ref b21), .val (.int (Int32.ofNat n)), .val (.int (Int32.ofNat (20 - n))), .val (.int sm), .val (.int so), .val (.int tO), .val (.int wo), .val (.int sb), .val (.int tb), .val (.int cb), .val (.int (Int32.ofNat k)), .val (.int (Int32.ofNat (own_a so n))), .val (.int (Int32.ofNat (own_t tO))), .val r, .val (.int ng), .val (.int sd), .val (.int td), .val (.int ok), .unset, .unset, .unset, .unset] [(.int (Int32.ofNat (n + 0)))])
                              refine own_go (fun t_ k_ => XS.iconst Xo.here hx rfl (hb hby at_469) k_) ?_
                              show own_Go p e below _ To (mkF m 470 #[.val (.long q1), .second, .val (.int p2), .val (.int p3), .val (.int p4), .val (.int p5), .val (.ref b1), .val (.long mm), .second, .val (.ref b21), .val (.int (Int32.ofNat n)), .val (.int (Int32.ofNat (20 - n))), .val (.int sm), .val (.int so), .val (.int tO), .val (.int wo), .val (.int sb), .val (.int tb), .val (.int cb), .val (.int (Int32.ofNat k)), .val (.int (Int32.ofNat (own_a so n))), .val (.int (Int32.ofNat (own_t tO))), .val r, .val (.int ng), .val (.int sd), .val (.int td), .val (.int ok), .unset, .unset, .unset, .unset] [(.int (1 : Int32)), (.int (Int32.ofNat (n + 0)))])
                              refine own_go (fun t_ k_ => XS.goto Xo.here hx rfl (pc0 := 470) (pc' := 474) rfl (hb hby at_470) (by decide) (by decide) k_) ?_
                              show own_Go p e below _ To (mkF m 474 #[.val (.long q1), .second, .val (.int p2), .val (.int p3), .val (.int p4), .val (.int p5), .val (.ref b1), .val (.long mm), .second, .val (.ref b21), .val (.int (Int32.ofNat n)), .val (.int (Int32.ofNat (20 - n))), .val (.int sm), .val (.int so), .val (.int tO), .val (.int wo), .val (.int sb), .val (.int tb), .val (.int cb), .val (.int (Int32.ofNat k)), .val (.int (Int32.ofNat (own_a so n))), .val (.int (Int32.ofNat (own_t tO))), .val r, .val (.int ng), .val (.int sd), .val (.int td), .val (.int ok), .unset, .unset, .unset, .unset] [(.int (1 : Int32)), (.int (Int32.ofNat (n + 0)))])
                              refine own_go (fun t_ k_ => XS.iadd Xo.here hx rfl (hb hby at_474) rfl k_) ?_
                              show own_Go p e below _ To (mkF m 475 #[.val (.long q1), .second, .val (.int p2), .val (.int p3), .val (.int p4), .val (.int p5), .val (.ref b1), .val (.long mm), .second, .val (.ref b21), .val (.int (Int32.ofNat n)), .val (.int (Int32.ofNat (20 - n))), .val (.int sm), .val (.int so), .val (.int tO), .val (.int wo), .val (.int sb), .val (.int tb), .val (.int cb), .val (.int (Int32.ofNat k)), .val (.int (Int32.ofNat (own_a so n))), .val (.int (Int32.ofNat (own_t tO))), .val r, .val (.int ng), .val (.int sd), .val (.int td), .val (.int ok), .unset, .unset, .unset, .unset] [(.int ((Int32.ofNat (n + 0)) + (1 : Int32)))])
                              rw [show ((Int32.ofNat (n + 0)) + (1 : Int32)) = (Int32.ofNat ((n + 0) + 1)) from own_oAdd (n + 0) 1]
                              show own_Go p e below _ To (mkF m 475 #[.val (.long q1), .second, .val (.int p2), .val (.int p3), .val (.int p4), .val (.int p5), .val (.ref b1), .val (.long mm), .second, .val (.ref b21), .val (.int (Int32.ofNat n)), .val (.int (Int32.ofNat (20 - n))), .val (.int sm), .val (.int so), .val (.int tO), .val (.int wo), .val (.int sb), .val (.int tb), .val (.int cb), .val (.int (Int32.ofNat k)), .val (.int (Int32.ofNat (own_a so n))), .val (.int (Int32.ofNat (own_t tO))), .val r, .val (.int ng), .val (.int sd), .val (.int td), .val (.int ok), .unset, .unset, .unset, .unset] [(.int (Int32.ofNat ((n + 0) + 1)))])
                              exact j475 (((n + 0) + 1)) To _ Xo No eo (by unfold own_cnt; rw [if_neg (hsd.mp h455), if_pos (Classical.byContradiction fun y => h466 (htd.mpr y))])
                          · show own_Go p e below _ To (mkF m 455 #[.val (.long q1), .second, .val (.int p2), .val (.int p3), .val (.int p4), .val (.int p5), .val (.ref b1), .val (.long mm), .second, .val (.ref b21), .val (.int (Int32.ofNat n)), .val (.int (Int32.ofNat (20 - n))), .val (.int sm), .val (.int so), .val (.int tO), .val (.int wo), .val (.int sb), .val (.int tb), .val (.int cb), .val (.int (Int32.ofNat k)), .val (.int (Int32.ofNat (own_a so n))), .val (.int (Int32.ofNat (own_t tO))), .val r, .val (.int ng), .val (.int sd), .val (.int td), .val (.int ok), .unset, .unset, .unset, .unset] [(.int sd), (.int (Int32.ofNat n))])
                            refine own_go (fun t_ k_ => XS.ifNo Xo.here hx rfl (hb hby at_455) rfl (XT.i0_eq_f h455) k_) ?_
                            show own_Go p e below _ To (mkF m 458 #[.val (.long q1), .second, .val (.int p2), .val (.int p3), .val (.int p4), .val (.int p5), .val (.ref b1), .val (.long mm), .second, .val (.ref b21), .val (.int (Int32.ofNat n)), .val (.int (Int32.ofNat (20 - n))), .val (.int sm), .val (.int so), .val (.int tO), .val (.int wo), .val (.int sb), .val (.int tb), .val (.int cb), .val (.int (Int32.ofNat k)), .val (.int (Int32.ofNat (own_a so n))), .val (.int (Int32.ofNat (own_t tO))), .val r, .val (.int ng), .val (.int sd), .val (.int td), .val (.int ok), .unset, .unset, .unset, .unset] [(.int (Int32.ofNat n))])
                            refine own_go (fun t_ k_ => XS.iconst Xo.here hx rfl (hb hby at_458) k_) ?_
                            show own_Go p e below _ To (mkF m 459 #[.val (.long q1), .second, .val (.int p2), .val (.int p3), .val (.int p4), .val (.int p5), .val (.ref b1), .val (.long mm), .second, .val (.ref b21), .val (.int (Int32.ofNat n)), .val (.int (Int32.ofNat (20 - n))), .val (.int sm), .val (.int so), .val (.int tO), .val (.int wo), .val (.int sb), .val (.int tb), .val (.int cb), .val (.int (Int32.ofNat k)), .val (.int (Int32.ofNat (own_a so n))), .val (.int (Int32.ofNat (own_t tO))), .val r, .val (.int ng), .val (.int sd), .val (.int td), .val (.int ok), .unset, .unset, .unset, .unset] [(.int (1 : Int32)), (.int (Int32.ofNat n))])
                            refine own_go (fun t_ k_ => XS.goto Xo.here hx rfl (pc0 := 459) (pc' := 463) rfl (hb hby at_459) (by decide) (by decide) k_) ?_
                            show own_Go p e below _ To (mkF m 463 #[.val (.long q1), .second, .val (.int p2), .val (.int p3), .val (.int p4), .val (.int p5), .val (.ref b1), .val (.long mm), .second, .val (.ref b21), .val (.int (Int32.ofNat n)), .val (.int (Int32.ofNat (20 - n))), .val (.int sm), .val (.int so), .val (.int tO), .val (.int wo), .val (.int sb), .val (.int tb), .val (.int cb), .val (.int (Int32.ofNat k)), .val (.int (Int32.ofNat (own_a so n))), .val (.int (Int32.ofNat (own_t tO))), .val r, .val (.int ng), .val (.int sd), .val (.int td), .val (.int ok), .unset, .unset, .unset, .unset] [(.int (1 : Int32)), (.int (Int32.ofNat n))])
                            refine own_go (fun t_ k_ => XS.iadd Xo.here hx rfl (hb hby at_463) rfl k_) ?_
                            show own_Go p e below _ To (mkF m 464 #[.val (.long q1), .second, .val (.int p2), .val (.int p3), .val (.int p4), .val (.int p5), .val (.ref b1), .val (.long mm), .second, .val (.ref b21), .val (.int (Int32.ofNat n)), .val (.int (Int32.ofNat (20 - n))), .val (.int sm), .val (.int so), .val (.int tO), .val (.int wo), .val (.int sb), .val (.int tb), .val (.int cb), .val (.int (Int32.ofNat k)), .val (.int (Int32.ofNat (own_a so n))), .val (.int (Int32.ofNat (own_t tO))), .val r, .val (.int ng), .val (.int sd), .val (.int td), .val (.int ok), .unset, .unset, .unset, .unset] [(.int ((Int32.ofNat n) + (1 : Int32)))])
                            rw [show ((Int32.ofNat n) + (1 : Int32)) = (Int32.ofNat (n + 1)) from own_oAdd n 1]
                            show own_Go p e below _ To (mkF m 464 #[.val (.long q1), .second, .val (.int p2), .val (.int p3), .val (.int p4), .val (.int p5), .val (.ref b1), .val (.long mm), .second, .val (.ref b21), .val (.int (Int32.ofNat n)), .val (.int (Int32.ofNat (20 - n))), .val (.int sm), .val (.int so), .val (.int tO), .val (.int wo), .val (.int sb), .val (.int tb), .val (.int cb), .val (.int (Int32.ofNat k)), .val (.int (Int32.ofNat (own_a so n))), .val (.int (Int32.ofNat (own_t tO))), .val r, .val (.int ng), .val (.int sd), .val (.int td), .val (.int ok), .unset, .unset, .unset, .unset] [(.int (Int32.ofNat (n + 1)))])
                            refine own_go (fun t_ k_ => XS.iload Xo.here hx rfl (hb hby at_464) rfl k_) ?_
                            show own_Go p e below _ To (mkF m 466 #[.val (.long q1), .second, .val (.int p2), .val (.int p3), .val (.int p4), .val (.int p5), .val (.ref b1), .val (.long mm), .second, .val (.ref b21), .val (.int (Int32.ofNat n)), .val (.int (Int32.ofNat (20 - n))), .val (.int sm), .val (.int so), .val (.int tO), .val (.int wo), .val (.int sb), .val (.int tb), .val (.int cb), .val (.int (Int32.ofNat k)), .val (.int (Int32.ofNat (own_a so n))), .val (.int (Int32.ofNat (own_t tO))), .val r, .val (.int ng), .val (.int sd), .val (.int td), .val (.int ok), .unset, .unset, .unset, .unset] [(.int td), (.int (Int32.ofNat (n + 1)))])
                            by_cases h466 : td = 0
                            · show own_Go p e below _ To (mkF m 466 #[.val (.long q1), .second, .val (.int p2), .val (.int p3), .val (.int p4), .val (.int p5), .val (.ref b1), .val (.long mm), .second, .val (.ref b21), .val (.int (Int32.ofNat n)), .val (.int (Int32.ofNat (20 - n))), .val (.int sm), .val (.int so), .val (.int tO), .val (.int wo), .val (.int sb), .val (.int tb), .val (.int cb), .val (.int (Int32.ofNat k)), .val (.int (Int32.ofNat (own_a so n))), .val (.int (Int32.ofNat (own_t tO))), .val r, .val (.int ng), .val (.int sd), .val (.int td), .val (.int ok), .unset, .unset, .unset, .unset] [(.int td), (.int (Int32.ofNat (n + 1)))])
                              refine own_go (fun t_ k_ => XS.ifYes Xo.here hx rfl (pc0 := 466) (pc' := 473) rfl (hb hby at_466) rfl (XT.i0_eq_t h466) (by decide) (by decide) k_) ?_
                              show own_Go p e below _ To (mkF m 473 #[.val (.long q1), .second, .val (.int p2), .val (.int p3), .val (.int p4), .val (.int p5), .val (.ref b1), .val (.long mm), .second, .val (.ref b21), .val (.int (Int32.ofNat n)), .val (.int (Int32.ofNat (20 - n))), .val (.int sm), .val (.int so), .val (.int tO), .val (.int wo), .val (.int sb), .val (.int tb), .val (.int cb), .val (.int (Int32.ofNat k)), .val (.int (Int32.ofNat (own_a so n))), .val (.int (Int32.ofNat (own_t tO))), .val r, .val (.int ng), .val (.int sd), .val (.int td), .val (.int ok), .unset, .unset, .unset, .unset] [(.int (Int32.ofNat (n + 1)))])
                              refine own_go (fun t_ k_ => XS.iconst Xo.here hx rfl (hb hby at_473) k_) ?_
                              show own_Go p e below _ To (mkF m 474 #[.val (.long q1), .second, .val (.int p2), .val (.int p3), .val (.int p4), .val (.int p5), .val (.ref b1), .val (.long mm), .second, .val (.ref b21), .val (.int (Int32.ofNat n)), .val (.int (Int32.ofNat (20 - n))), .val (.int sm), .val (.int so), .val (.int tO), .val (.int wo), .val (.int sb), .val (.int tb), .val (.int cb), .val (.int (Int32.ofNat k)), .val (.int (Int32.ofNat (own_a so n))), .val (.int (Int32.ofNat (own_t tO))), .val r, .val (.int ng), .val (.int sd), .val (.int td), .val (.int ok), .unset, .unset, .unset, .unset] [(.int (0 : Int32)), (.int (Int32.ofNat (n + 1)))])
                              refine own_go (fun t_ k_ => XS.iadd Xo.here hx rfl (hb hby at_474) rfl k_) ?_
                              show own_Go p e below _ To (mkF m 475 #[.val (.long q1), .second, .val (.int p2), .val (.int p3), .val (.int p4), .val (.int p5), .val (.ref b1), .val (.long mm), .second, .val (.ref b21), .val (.int (Int32.ofNat n)), .val (.int (Int32.ofNat (20 - n))), .val (.int sm), .val (.int so), .val (.int tO), .val (.int wo), .val (.int sb), .val (.int tb), .val (.int cb), .val (.int (Int32.ofNat k)), .val (.int (Int32.ofNat (own_a so n))), .val (.int (Int32.ofNat (own_t tO))), .val r, .val (.int ng), .val (.int sd), .val (.int td), .val (.int ok), .unset, .unset, .unset, .unset] [(.int ((Int32.ofNat (n + 1)) + (0 : Int32)))])
                              rw [show ((Int32.ofNat (n + 1)) + (0 : Int32)) = (Int32.ofNat ((n + 1) + 0)) from own_oAdd (n + 1) 0]
                              show own_Go p e below _ To (mkF m 475 #[.val (.long q1), .second, .val (.int p2), .val (.int p3), .val (.int p4), .val (.int p5), .val (.ref b1), .val (.long mm), .second, .val (.ref b21), .val (.int (Int32.ofNat n)), .val (.int (Int32.ofNat (20 - n))), .val (.int sm), .val (.int so), .val (.int tO), .val (.int wo), .val (.int sb), .val (.int tb), .val (.int cb), .val (.int (Int32.ofNat k)), .val (.int (Int32.ofNat (own_a so n))), .val (.int (Int32.ofNat (own_t tO))), .val r, .val (.int ng), .val (.int sd), .val (.int td), .val (.int ok), .unset, .unset, .unset, .unset] [(.int (Int32.ofNat ((n + 1) + 0)))])
                              exact j475 (((n + 1) + 0)) To _ Xo No eo (by unfold own_cnt; rw [if_pos (Classical.byContradiction fun y => h455 (hsd.mpr y)), if_neg (htd.mp h466)])
                            · show own_Go p e below _ To (mkF m 466 #[.val (.long q1), .second, .val (.int p2), .val (.int p3), .val (.int p4), .val (.int p5), .val (.ref b1), .val (.long mm), .second, .val (.ref b21), .val (.int (Int32.ofNat n)), .val (.int (Int32.ofNat (20 - n))), .val (.int sm), .val (.int so), .val (.int tO), .val (.int wo), .val (.int sb), .val (.int tb), .val (.int cb), .val (.int (Int32.ofNat k)), .val (.int (Int32.ofNat (own_a so n))), .val (.int (Int32.ofNat (own_t tO))), .val r, .val (.int ng), .val (.int sd), .val (.int td), .val (.int ok), .unset, .unset, .unset, .unset] [(.int td), (.int (Int32.ofNat (n + 1)))])
                              refine own_go (fun t_ k_ => XS.ifNo Xo.here hx rfl (hb hby at_466) rfl (XT.i0_eq_f h466) k_) ?_
                              show own_Go p e below _ To (mkF m 469 #[.val (.long q1), .second, .val (.int p2), .val (.int p3), .val (.int p4), .val (.int p5), .val (.ref b1), .val (.long mm), .second, .val (.ref b21), .val (.int (Int32.ofNat n)), .val (.int (Int32.ofNat (20 - n))), .val (.int sm), .val (.int so), .val (.int tO), .val (.int wo), .val (.int sb), .val (.int tb), .val (.int cb), .val (.int (Int32.ofNat k)), .val (.int (Int32.ofNat (own_a so n))), .val (.int (Int32.ofNat (own_t tO))), .val r, .val (.int ng), .val (.int sd), .val (.int td), .val (.int ok), .unset, .unset, .unset, .unset] [(.int (Int32.ofNat (n + 1)))])
                              refine own_go (fun t_ k_ => XS.iconst Xo.here hx rfl (hb hby at_469) k_) ?_
                              show own_Go p e below _ To (mkF m 470 #[.val (.long q1), .second, .val (.int p2), .val (.int p3), .val (.int p4), .val (.int p5), .val (.ref b1), .val (.long mm), .second, .val (.ref b21), .val (.int (Int32.ofNat n)), .val (.int (Int32.ofNat (20 - n))), .val (.int sm), .val (.int so), .val (.int tO), .val (.int wo), .val (.int sb), .val (.int tb), .val (.int cb), .val (.int (Int32.ofNat k)), .val (.int (Int32.ofNat (own_a so n))), .val (.int (Int32.ofNat (own_t tO))), .val r, .val (.int ng), .val (.int sd), .val (.int td), .val (.int ok), .unset, .unset, .unset, .unset] [(.int (1 : Int32)), (.int (Int32.ofNat (n + 1)))])
                              refine own_go (fun t_ k_ => XS.goto Xo.here hx rfl (pc0 := 470) (pc' := 474) rfl (hb hby at_470) (by decide) (by decide) k_) ?_
                              show own_Go p e below _ To (mkF m 474 #[.val (.long q1), .second, .val (.int p2), .val (.int p3), .val (.int p4), .val (.int p5), .val (.ref b1), .val (.long mm), .second, .val (.ref b21), .val (.int (Int32.ofNat n)), .val (.int (Int32.ofNat (20 - n))), .val (.int sm), .val (.int so), .val (.int tO), .val (.int wo), .val (.int sb), .val (.int tb), .val (.int cb), .val (.int (Int32.ofNat k)), .val (.int (Int32.ofNat (own_a so n))), .val (.int (Int32.ofNat (own_t tO))), .val r, .val (.int ng), .val (.int sd), .val (.int td), .val (.int ok), .unset, .unset, .unset, .unset] [(.int (1 : Int32)), (.int (Int32.ofNat (n + 1)))])
                              refine own_go (fun t_ k_ => XS.iadd Xo.here hx rfl (hb hby at_474) rfl k_) ?_
                              show own_Go p e below _ To (mkF m 475 #[.val (.long q1), .second, .val (.int p2), .val (.int p3), .val (.int p4), .val (.int p5), .val (.ref b1), .val (.long mm), .second, .val (.ref b21), .val (.int (Int32.ofNat n)), .val (.int (Int32.ofNat (20 - n))), .val (.int sm), .val (.int so), .val (.int tO), .val (.int wo), .val (.int sb), .val (.int tb), .val (.int cb), .val (.int (Int32.ofNat k)), .val (.int (Int32.ofNat (own_a so n))), .val (.int (Int32.ofNat (own_t tO))), .val r, .val (.int ng), .val (.int sd), .val (.int td), .val (.int ok), .unset, .unset, .unset, .unset] [(.int ((Int32.ofNat (n + 1)) + (1 : Int32)))])
                              rw [show ((Int32.ofNat (n + 1)) + (1 : Int32)) = (Int32.ofNat ((n + 1) + 1)) from own_oAdd (n + 1) 1]
                              show own_Go p e below _ To (mkF m 475 #[.val (.long q1), .second, .val (.int p2), .val (.int p3), .val (.int p4), .val (.int p5), .val (.ref b1), .val (.long mm), .second, .val (.ref b21), .val (.int (Int32.ofNat n)), .val (.int (Int32.ofNat (20 - n))), .val (.int sm), .val (.int so), .val (.int tO), .val (.int wo), .val (.int sb), .val (.int tb), .val (.int cb), .val (.int (Int32.ofNat k)), .val (.int (Int32.ofNat (own_a so n))), .val (.int (Int32.ofNat (own_t tO))), .val r, .val (.int ng), .val (.int sd), .val (.int td), .val (.int ok), .unset, .unset, .unset, .unset] [(.int (Int32.ofNat ((n + 1) + 1)))])
                              exact j475 (((n + 1) + 1)) To _ Xo No eo (by unfold own_cnt; rw [if_pos (Classical.byContradiction fun y => h455 (hsd.mpr y)), if_pos (Classical.byContradiction fun y => h466 (htd.mpr y))])
                        by_cases h408 : so = 0
                        · show own_Go p e below _ Ti (mkF m 408 #[.val (.long q1), .second, .val (.int p2), .val (.int p3), .val (.int p4), .val (.int p5), .val (.ref b1), .val (.long mm), .second, .val (.ref b21), .val (.int (Int32.ofNat n)), .val (.int (Int32.ofNat (20 - n))), .val (.int sm), .val (.int so), .val (.int tO), .val (.int wo), .val (.int sb), .val (.int tb), .val (.int cb), .val (.int (Int32.ofNat k)), .val (.int (Int32.ofNat (own_a so n))), .val (.int (Int32.ofNat (own_t tO))), .val r, .val (.int ng), .val (.int sd), .val (.int td), .unset, .unset, .unset, .unset, .unset] [(.int so)])
                          refine own_go (fun t_ k_ => XS.ifYes Xi.here hx rfl (pc0 := 408) (pc' := 421) rfl (hb hby at_408) rfl (XT.i0_eq_t h408) (by decide) (by decide) k_) ?_
                          show own_Go p e below _ Ti (mkF m 421 #[.val (.long q1), .second, .val (.int p2), .val (.int p3), .val (.int p4), .val (.int p5), .val (.ref b1), .val (.long mm), .second, .val (.ref b21), .val (.int (Int32.ofNat n)), .val (.int (Int32.ofNat (20 - n))), .val (.int sm), .val (.int so), .val (.int tO), .val (.int wo), .val (.int sb), .val (.int tb), .val (.int cb), .val (.int (Int32.ofNat k)), .val (.int (Int32.ofNat (own_a so n))), .val (.int (Int32.ofNat (own_t tO))), .val r, .val (.int ng), .val (.int sd), .val (.int td), .unset, .unset, .unset, .unset, .unset] [])
                          refine own_go (fun t_ k_ => XS.iload Xi.here hx rfl (hb hby at_421) rfl k_) ?_
                          show own_Go p e below _ Ti (mkF m 423 #[.val (.long q1), .second, .val (.int p2), .val (.int p3), .val (.int p4), .val (.int p5), .val (.ref b1), .val (.long mm), .second, .val (.ref b21), .val (.int (Int32.ofNat n)), .val (.int (Int32.ofNat (20 - n))), .val (.int sm), .val (.int so), .val (.int tO), .val (.int wo), .val (.int sb), .val (.int tb), .val (.int cb), .val (.int (Int32.ofNat k)), .val (.int (Int32.ofNat (own_a so n))), .val (.int (Int32.ofNat (own_t tO))), .val r, .val (.int ng), .val (.int sd), .val (.int td), .unset, .unset, .unset, .unset, .unset] [(.int tO)])
                          by_cases h423 : tO = 0
                          · show own_Go p e below _ Ti (mkF m 423 #[.val (.long q1), .second, .val (.int p2), .val (.int p3), .val (.int p4), .val (.int p5), .val (.ref b1), .val (.long mm), .second, .val (.ref b21), .val (.int (Int32.ofNat n)), .val (.int (Int32.ofNat (20 - n))), .val (.int sm), .val (.int so), .val (.int tO), .val (.int wo), .val (.int sb), .val (.int tb), .val (.int cb), .val (.int (Int32.ofNat k)), .val (.int (Int32.ofNat (own_a so n))), .val (.int (Int32.ofNat (own_t tO))), .val r, .val (.int ng), .val (.int sd), .val (.int td), .unset, .unset, .unset, .unset, .unset] [(.int tO)])
                            refine own_go (fun t_ k_ => XS.ifYes Xi.here hx rfl (pc0 := 423) (pc' := 431) rfl (hb hby at_423) rfl (XT.i0_eq_t h423) (by decide) (by decide) k_) ?_
                            show own_Go p e below _ Ti (mkF m 431 #[.val (.long q1), .second, .val (.int p2), .val (.int p3), .val (.int p4), .val (.int p5), .val (.ref b1), .val (.long mm), .second, .val (.ref b21), .val (.int (Int32.ofNat n)), .val (.int (Int32.ofNat (20 - n))), .val (.int sm), .val (.int so), .val (.int tO), .val (.int wo), .val (.int sb), .val (.int tb), .val (.int cb), .val (.int (Int32.ofNat k)), .val (.int (Int32.ofNat (own_a so n))), .val (.int (Int32.ofNat (own_t tO))), .val r, .val (.int ng), .val (.int sd), .val (.int td), .unset, .unset, .unset, .unset, .unset] [])
                            refine own_go (fun t_ k_ => XS.iload Xi.here hx rfl (hb hby at_431) rfl k_) ?_
                            show own_Go p e below _ Ti (mkF m 433 #[.val (.long q1), .second, .val (.int p2), .val (.int p3), .val (.int p4), .val (.int p5), .val (.ref b1), .val (.long mm), .second, .val (.ref b21), .val (.int (Int32.ofNat n)), .val (.int (Int32.ofNat (20 - n))), .val (.int sm), .val (.int so), .val (.int tO), .val (.int wo), .val (.int sb), .val (.int tb), .val (.int cb), .val (.int (Int32.ofNat k)), .val (.int (Int32.ofNat (own_a so n))), .val (.int (Int32.ofNat (own_t tO))), .val r, .val (.int ng), .val (.int sd), .val (.int td), .unset, .unset, .unset, .unset, .unset] [(.int wo)])
                            by_cases h433 : wo = 0
                            · show own_Go p e below _ Ti (mkF m 433 #[.val (.long q1), .second, .val (.int p2), .val (.int p3), .val (.int p4), .val (.int p5), .val (.ref b1), .val (.long mm), .second, .val (.ref b21), .val (.int (Int32.ofNat n)), .val (.int (Int32.ofNat (20 - n))), .val (.int sm), .val (.int so), .val (.int tO), .val (.int wo), .val (.int sb), .val (.int tb), .val (.int cb), .val (.int (Int32.ofNat k)), .val (.int (Int32.ofNat (own_a so n))), .val (.int (Int32.ofNat (own_t tO))), .val r, .val (.int ng), .val (.int sd), .val (.int td), .unset, .unset, .unset, .unset, .unset] [(.int wo)])
                              refine own_go (fun t_ k_ => XS.ifYes Xi.here hx rfl (pc0 := 433) (pc' := 444) rfl (hb hby at_433) rfl (XT.i0_eq_t h433) (by decide) (by decide) k_) ?_
                              show own_Go p e below _ Ti (mkF m 444 #[.val (.long q1), .second, .val (.int p2), .val (.int p3), .val (.int p4), .val (.int p5), .val (.ref b1), .val (.long mm), .second, .val (.ref b21), .val (.int (Int32.ofNat n)), .val (.int (Int32.ofNat (20 - n))), .val (.int sm), .val (.int so), .val (.int tO), .val (.int wo), .val (.int sb), .val (.int tb), .val (.int cb), .val (.int (Int32.ofNat k)), .val (.int (Int32.ofNat (own_a so n))), .val (.int (Int32.ofNat (own_t tO))), .val r, .val (.int ng), .val (.int sd), .val (.int td), .unset, .unset, .unset, .unset, .unset] [])
                              refine own_go (fun t_ k_ => XS.iconst Xi.here hx rfl (hb hby at_444) k_) ?_
                              show own_Go p e below _ Ti (mkF m 445 #[.val (.long q1), .second, .val (.int p2), .val (.int p3), .val (.int p4), .val (.int p5), .val (.ref b1), .val (.long mm), .second, .val (.ref b21), .val (.int (Int32.ofNat n)), .val (.int (Int32.ofNat (20 - n))), .val (.int sm), .val (.int so), .val (.int tO), .val (.int wo), .val (.int sb), .val (.int tb), .val (.int cb), .val (.int (Int32.ofNat k)), .val (.int (Int32.ofNat (own_a so n))), .val (.int (Int32.ofNat (own_t tO))), .val r, .val (.int ng), .val (.int sd), .val (.int td), .unset, .unset, .unset, .unset, .unset] [(.int (1 : Int32))])
                              refine own_go (fun t_ k_ => XS.goto Xi.here hx rfl (pc0 := 445) (pc' := 449) rfl (hb hby at_445) (by decide) (by decide) k_) ?_
                              show own_Go p e below _ Ti (mkF m 449 #[.val (.long q1), .second, .val (.int p2), .val (.int p3), .val (.int p4), .val (.int p5), .val (.ref b1), .val (.long mm), .second, .val (.ref b21), .val (.int (Int32.ofNat n)), .val (.int (Int32.ofNat (20 - n))), .val (.int sm), .val (.int so), .val (.int tO), .val (.int wo), .val (.int sb), .val (.int tb), .val (.int cb), .val (.int (Int32.ofNat k)), .val (.int (Int32.ofNat (own_a so n))), .val (.int (Int32.ofNat (own_t tO))), .val r, .val (.int ng), .val (.int sd), .val (.int td), .unset, .unset, .unset, .unset, .unset] [(.int (1 : Int32))])
                              exact j449 (1 : Int32) Ti _ Xi Ni ei ⟨fun z => absurd z (by decide), fun z => absurd (show own_OK tb wo cb so sb tO from ⟨Or.inl h408, Or.inl h423, Or.inl h433⟩) z⟩
                            · show own_Go p e below _ Ti (mkF m 433 #[.val (.long q1), .second, .val (.int p2), .val (.int p3), .val (.int p4), .val (.int p5), .val (.ref b1), .val (.long mm), .second, .val (.ref b21), .val (.int (Int32.ofNat n)), .val (.int (Int32.ofNat (20 - n))), .val (.int sm), .val (.int so), .val (.int tO), .val (.int wo), .val (.int sb), .val (.int tb), .val (.int cb), .val (.int (Int32.ofNat k)), .val (.int (Int32.ofNat (own_a so n))), .val (.int (Int32.ofNat (own_t tO))), .val r, .val (.int ng), .val (.int sd), .val (.int td), .unset, .unset, .unset, .unset, .unset] [(.int wo)])
                              refine own_go (fun t_ k_ => XS.ifNo Xi.here hx rfl (hb hby at_433) rfl (XT.i0_eq_f h433) k_) ?_
                              show own_Go p e below _ Ti (mkF m 436 #[.val (.long q1), .second, .val (.int p2), .val (.int p3), .val (.int p4), .val (.int p5), .val (.ref b1), .val (.long mm), .second, .val (.ref b21), .val (.int (Int32.ofNat n)), .val (.int (Int32.ofNat (20 - n))), .val (.int sm), .val (.int so), .val (.int tO), .val (.int wo), .val (.int sb), .val (.int tb), .val (.int cb), .val (.int (Int32.ofNat k)), .val (.int (Int32.ofNat (own_a so n))), .val (.int (Int32.ofNat (own_t tO))), .val r, .val (.int ng), .val (.int sd), .val (.int td), .unset, .unset, .unset, .unset, .unset] [])
                              refine own_go (fun t_ k_ => XS.iload Xi.here hx rfl (hb hby at_436) rfl k_) ?_
                              show own_Go p e below _ Ti (mkF m 438 #[.val (.long q1), .second, .val (.int p2), .val (.int p3), .val (.int p4), .val (.int p5), .val (.ref b1), .val (.long mm), .second, .val (.ref b21), .val (.int (Int32.ofNat n)), .val (.int (Int32.ofNat (20 - n))), .val (.int sm), .val (.int so), .val (.int tO), .val (.int wo), .val (.int sb), .val (.int tb), .val (.int cb), .val (.int (Int32.ofNat k)), .val (.int (Int32.ofNat (own_a so n))), .val (.int (Int32.ofNat (own_t tO))), .val r, .val (.int ng), .val (.int sd), .val (.int td), .unset, .unset, .unset, .unset, .unset] [(.int cb)])
                              obtain ⟨_, T26, L26, X26, ⟨rfl, N26, e26⟩, st26⟩ := own_callS Xi hx hZ (y := (⟨"com/example/gridtally/gridtally/core/DecimalsIntegerPinLaw", "isDigit", "(B)Z"⟩ : MethodName)) (argsL := [(.int cb)]) (rest := []) (Ls := #[.val (.long q1), .second, .val (.int p2), .val (.int p3), .val (.int p4), .val (.int p5), .val (.ref b1), .val (.long mm), .second, .val (.ref b21), .val (.int (Int32.ofNat n)), .val (.int (Int32.ofNat (20 - n))), .val (.int sm), .val (.int so), .val (.int tO), .val (.int wo), .val (.int sb), .val (.int tb), .val (.int cb), .val (.int (Int32.ofNat k)), .val (.int (Int32.ofNat (own_a so n))), .val (.int (Int32.ofNat (own_t tO))), .val r, .val (.int ng), .val (.int sd), .val (.int td), .unset, .unset, .unset, .unset, .unset]) hown (own_w hw 58 rfl) (own_w hw 59 rfl) (own_w hw 23 rfl) (own_w hw 60 rfl) (by decide) ei (rmID l Z a0 hw [] cb T24.heap n0 (own_oldge old24)) 0 (by decide) (by decide) (by decide) (by decide) (by rw [hml]; rfl) (lenOf pd_2 rfl) rfl (Nat.le_of_eq rfl) (hb hby at_438)
                              have M26 := Fr.app Ni N26
                              refine own_go st26 ?_
                              show own_Go p e below _ T26 (mkF m 441 #[.val (.long q1), .second, .val (.int p2), .val (.int p3), .val (.int p4), .val (.int p5), .val (.ref b1), .val (.long mm), .second, .val (.ref b21), .val (.int (Int32.ofNat n)), .val (.int (Int32.ofNat (20 - n))), .val (.int sm), .val (.int so), .val (.int tO), .val (.int wo), .val (.int sb), .val (.int tb), .val (.int cb), .val (.int (Int32.ofNat k)), .val (.int (Int32.ofNat (own_a so n))), .val (.int (Int32.ofNat (own_t tO))), .val r, .val (.int ng), .val (.int sd), .val (.int td), .unset, .unset, .unset, .unset, .unset] [(.int (if own_dig cb then 1 else 0))])
                              by_cases h441 : ¬ own_dig cb
                              · show own_Go p e below _ T26 (mkF m 441 #[.val (.long q1), .second, .val (.int p2), .val (.int p3), .val (.int p4), .val (.int p5), .val (.ref b1), .val (.long mm), .second, .val (.ref b21), .val (.int (Int32.ofNat n)), .val (.int (Int32.ofNat (20 - n))), .val (.int sm), .val (.int so), .val (.int tO), .val (.int wo), .val (.int sb), .val (.int tb), .val (.int cb), .val (.int (Int32.ofNat k)), .val (.int (Int32.ofNat (own_a so n))), .val (.int (Int32.ofNat (own_t tO))), .val r, .val (.int ng), .val (.int sd), .val (.int td), .unset, .unset, .unset, .unset, .unset] [(.int (if own_dig cb then 1 else 0))])
                                refine own_go (fun t_ k_ => XS.ifYes X26.here hx rfl (pc0 := 441) (pc' := 448) rfl (hb hby at_441) rfl (XT.i0_eq_t (own_ite0.mpr h441)) (by decide) (by decide) k_) ?_
                                show own_Go p e below _ T26 (mkF m 448 #[.val (.long q1), .second, .val (.int p2), .val (.int p3), .val (.int p4), .val (.int p5), .val (.ref b1), .val (.long mm), .second, .val (.ref b21), .val (.int (Int32.ofNat n)), .val (.int (Int32.ofNat (20 - n))), .val (.int sm), .val (.int so), .val (.int tO), .val (.int wo), .val (.int sb), .val (.int tb), .val (.int cb), .val (.int (Int32.ofNat k)), .val (.int (Int32.ofNat (own_a so n))), .val (.int (Int32.ofNat (own_t tO))), .val r, .val (.int ng), .val (.int sd), .val (.int td), .unset, .unset, .unset, .unset, .unset] [])
                                refine own_go (fun t_ k_ => XS.iconst X26.here hx rfl (hb hby at_448) k_) ?_
                                show own_Go p e below _ T26 (mkF m 449 #[.val (.long q1), .second, .val (.int p2), .val (.int p3), .val (.int p4), .val (.int p5), .val (.ref b1), .val (.long mm), .second, .val (.ref b21), .val (.int (Int32.ofNat n)), .val (.int (Int32.ofNat (20 - n))), .val (.int sm), .val (.int so), .val (.int tO), .val (.int wo), .val (.int sb), .val (.int tb), .val (.int cb), .val (.int (Int32.ofNat k)), .val (.int (Int32.ofNat (own_a so n))), .val (.int (Int32.ofNat (own_t tO))), .val r, .val (.int ng), .val (.int sd), .val (.int td), .unset, .unset, .unset, .unset, .unset] [(.int (0 : Int32))])
                                exact j449 (0 : Int32) T26 _ X26 M26 e26 ⟨fun _ => (fun y => y.2.2.elim h433 h441), fun _ => rfl⟩
                              · show own_Go p e below _ T26 (mkF m 441 #[.val (.long q1), .second, .val (.int p2), .val (.int p3), .val (.int p4), .val (.int p5), .val (.ref b1), .val (.long mm), .second, .val (.ref b21), .val (.int (Int32.ofNat n)), .val (.int (Int32.ofNat (20 - n))), .val (.int sm), .val (.int so), .val (.int tO), .val (.int wo), .val (.int sb), .val (.int tb), .val (.int cb), .val (.int (Int32.ofNat k)), .val (.int (Int32.ofNat (own_a so n))), .val (.int (Int32.ofNat (own_t tO))), .val r, .val (.int ng), .val (.int sd), .val (.int td), .unset, .unset, .unset, .unset, .unset] [(.int (if own_dig cb then 1 else 0))])
                                refine own_go (fun t_ k_ => XS.ifNo X26.here hx rfl (hb hby at_441) rfl (XT.i0_eq_f (fun q => h441 (own_ite0.mp q))) k_) ?_
                                show own_Go p e below _ T26 (mkF m 444 #[.val (.long q1), .second, .val (.int p2), .val (.int p3), .val (.int p4), .val (.int p5), .val (.ref b1), .val (.long mm), .second, .val (.ref b21), .val (.int (Int32.ofNat n)), .val (.int (Int32.ofNat (20 - n))), .val (.int sm), .val (.int so), .val (.int tO), .val (.int wo), .val (.int sb), .val (.int tb), .val (.int cb), .val (.int (Int32.ofNat k)), .val (.int (Int32.ofNat (own_a so n))), .val (.int (Int32.ofNat (own_t tO))), .val r, .val (.int ng), .val (.int sd), .val (.int td), .unset, .unset, .unset, .unset, .unset] [])
                                refine own_go (fun t_ k_ => XS.iconst X26.here hx rfl (hb hby at_444) k_) ?_
                                show own_Go p e below _ T26 (mkF m 445 #[.val (.long q1), .second, .val (.int p2), .val (.int p3), .val (.int p4), .val (.int p5), .val (.ref b1), .val (.long mm), .second, .val (.ref b21), .val (.int (Int32.ofNat n)), .val (.int (Int32.ofNat (20 - n))), .val (.int sm), .val (.int so), .val (.int tO), .val (.int wo), .val (.int sb), .val (.int tb), .val (.int cb), .val (.int (Int32.ofNat k)), .val (.int (Int32.ofNat (own_a so n))), .val (.int (Int32.ofNat (own_t tO))), .val r, .val (.int ng), .val (.int sd), .val (.int td), .unset, .unset, .unset, .unset, .unset] [(.int (1 : Int32))])
                                refine own_go (fun t_ k_ => XS.goto X26.here hx rfl (pc0 := 445) (pc' := 449) rfl (hb hby at_445) (by decide) (by decide) k_) ?_
                                show own_Go p e below _ T26 (mkF m 449 #[.val (.long q1), .second, .val (.int p2), .val (.int p3), .val (.int p4), .val (.int p5), .val (.ref b1), .val (.long mm), .second, .val (.ref b21), .val (.int (Int32.ofNat n)), .val (.int (Int32.ofNat (20 - n))), .val (.int sm), .val (.int so), .val (.int tO), .val (.int wo), .val (.int sb), .val (.int tb), .val (.int cb), .val (.int (Int32.ofNat k)), .val (.int (Int32.ofNat (own_a so n))), .val (.int (Int32.ofNat (own_t tO))), .val r, .val (.int ng), .val (.int sd), .val (.int td), .unset, .unset, .unset, .unset, .unset] [(.int (1 : Int32))])
                                exact j449 (1 : Int32) T26 _ X26 M26 e26 ⟨fun z => absurd z (by decide), fun z => absurd (show own_OK tb wo cb so sb tO from ⟨Or.inl h408, Or.inl h423, Or.inr (Classical.not_not.mp h441)⟩) z⟩
                          · show own_Go p e below _ Ti (mkF m 423 #[.val (.long q1), .second, .val (.int p2), .val (.int p3), .val (.int p4), .val (.int p5), .val (.ref b1), .val (.long mm), .second, .val (.ref b21), .val (.int (Int32.ofNat n)), .val (.int (Int32.ofNat (20 - n))), .val (.int sm), .val (.int so), .val (.int tO), .val (.int wo), .val (.int sb), .val (.int tb), .val (.int cb), .val (.int (Int32.ofNat k)), .val (.int (Int32.ofNat (own_a so n))), .val (.int (Int32.ofNat (own_t tO))), .val r, .val (.int ng), .val (.int sd), .val (.int td), .unset, .unset, .unset, .unset, .unset] [(.int tO)])
                            refine own_go (fun t_ k_ => XS.ifNo Xi.here hx rfl (hb hby at_423) rfl (XT.i0_eq_f h423) k_) ?_
                            show own_Go p e below _ Ti (mkF m 426 #[.val (.long q1), .second, .val (.int p2), .val (.int p3), .val (.int p4), .val (.int p5), .val (.ref b1), .val (.long mm), .second, .val (.ref b21), .val (.int (Int32.ofNat n)), .val (.int (Int32.ofNat (20 - n))), .val (.int sm), .val (.int so), .val (.int tO), .val (.int wo), .val (.int sb), .val (.int tb), .val (.int cb), .val (.int (Int32.ofNat k)), .val (.int (Int32.ofNat (own_a so n))), .val (.int (Int32.ofNat (own_t tO))), .val r, .val (.int ng), .val (.int sd), .val (.int td), .unset, .unset, .unset, .unset, .unset] [])
                            refine own_go (fun t_ k_ => XS.iload Xi.here hx rfl (hb hby at_426) rfl k_) ?_
                            show own_Go p e below _ Ti (mkF m 428 #[.val (.long q1), .second, .val (.int p2), .val (.int p3), .val (.int p4), .val (.int p5), .val (.ref b1), .val (.long mm), .second, .val (.ref b21), .val (.int (Int32.ofNat n)), .val (.int (Int32.ofNat (20 - n))), .val (.int sm), .val (.int so), .val (.int tO), .val (.int wo), .val (.int sb), .val (.int tb), .val (.int cb), .val (.int (Int32.ofNat k)), .val (.int (Int32.ofNat (own_a so n))), .val (.int (Int32.ofNat (own_t tO))), .val r, .val (.int ng), .val (.int sd), .val (.int td), .unset, .unset, .unset, .unset, .unset] [(.int td)])
                            by_cases h428 : td = 0
                            · show own_Go p e below _ Ti (mkF m 428 #[.val (.long q1), .second, .val (.int p2), .val (.int p3), .val (.int p4), .val (.int p5), .val (.ref b1), .val (.long mm), .second, .val (.ref b21), .val (.int (Int32.ofNat n)), .val (.int (Int32.ofNat (20 - n))), .val (.int sm), .val (.int so), .val (.int tO), .val (.int wo), .val (.int sb), .val (.int tb), .val (.int cb), .val (.int (Int32.ofNat k)), .val (.int (Int32.ofNat (own_a so n))), .val (.int (Int32.ofNat (own_t tO))), .val r, .val (.int ng), .val (.int sd), .val (.int td), .unset, .unset, .unset, .unset, .unset] [(.int td)])
                              refine own_go (fun t_ k_ => XS.ifYes Xi.here hx rfl (pc0 := 428) (pc' := 448) rfl (hb hby at_428) rfl (XT.i0_eq_t h428) (by decide) (by decide) k_) ?_
                              show own_Go p e below _ Ti (mkF m 448 #[.val (.long q1), .second, .val (.int p2), .val (.int p3), .val (.int p4), .val (.int p5), .val (.ref b1), .val (.long mm), .second, .val (.ref b21), .val (.int (Int32.ofNat n)), .val (.int (Int32.ofNat (20 - n))), .val (.int sm), .val (.int so), .val (.int tO), .val (.int wo), .val (.int sb), .val (.int tb), .val (.int cb), .val (.int (Int32.ofNat k)), .val (.int (Int32.ofNat (own_a so n))), .val (.int (Int32.ofNat (own_t tO))), .val r, .val (.int ng), .val (.int sd), .val (.int td), .unset, .unset, .unset, .unset, .unset] [])
                              refine own_go (fun t_ k_ => XS.iconst Xi.here hx rfl (hb hby at_448) k_) ?_
                              show own_Go p e below _ Ti (mkF m 449 #[.val (.long q1), .second, .val (.int p2), .val (.int p3), .val (.int p4), .val (.int p5), .val (.ref b1), .val (.long mm), .second, .val (.ref b21), .val (.int (Int32.ofNat n)), .val (.int (Int32.ofNat (20 - n))), .val (.int sm), .val (.int so), .val (.int tO), .val (.int wo), .val (.int sb), .val (.int tb), .val (.int cb), .val (.int (Int32.ofNat k)), .val (.int (Int32.ofNat (own_a so n))), .val (.int (Int32.ofNat (own_t tO))), .val r, .val (.int ng), .val (.int sd), .val (.int td), .unset, .unset, .unset, .unset, .unset] [(.int (0 : Int32))])
                              exact j449 (0 : Int32) Ti _ Xi Ni ei ⟨fun _ => (fun y => y.2.1.elim h423 (fun x => htd.mp h428 ⟨h423, x⟩)), fun _ => rfl⟩
                            · show own_Go p e below _ Ti (mkF m 428 #[.val (.long q1), .second, .val (.int p2), .val (.int p3), .val (.int p4), .val (.int p5), .val (.ref b1), .val (.long mm), .second, .val (.ref b21), .val (.int (Int32.ofNat n)), .val (.int (Int32.ofNat (20 - n))), .val (.int sm), .val (.int so), .val (.int tO), .val (.int wo), .val (.int sb), .val (.int tb), .val (.int cb), .val (.int (Int32.ofNat k)), .val (.int (Int32.ofNat (own_a so n))), .val (.int (Int32.ofNat (own_t tO))), .val r, .val (.int ng), .val (.int sd), .val (.int td), .unset, .unset, .unset, .unset, .unset] [(.int td)])
                              refine own_go (fun t_ k_ => XS.ifNo Xi.here hx rfl (hb hby at_428) rfl (XT.i0_eq_f h428) k_) ?_
                              show own_Go p e below _ Ti (mkF m 431 #[.val (.long q1), .second, .val (.int p2), .val (.int p3), .val (.int p4), .val (.int p5), .val (.ref b1), .val (.long mm), .second, .val (.ref b21), .val (.int (Int32.ofNat n)), .val (.int (Int32.ofNat (20 - n))), .val (.int sm), .val (.int so), .val (.int tO), .val (.int wo), .val (.int sb), .val (.int tb), .val (.int cb), .val (.int (Int32.ofNat k)), .val (.int (Int32.ofNat (own_a so n))), .val (.int (Int32.ofNat (own_t tO))), .val r, .val (.int ng), .val (.int sd), .val (.int td), .unset, .unset, .unset, .unset, .unset] [])
                              refine own_go (fun t_ k_ => XS.iload Xi.here hx rfl (hb hby at_431) rfl k_) ?_
                              show own_Go p e below _ Ti (mkF m 433 #[.val (.long q1), .second, .val (.int p2), .val (.int p3), .val (.int p4), .val (.int p5), .val (.ref b1), .val (.long mm), .second, .val (.ref b21), .val (.int (Int32.ofNat n)), .val (.int (Int32.ofNat (20 - n))), .val (.int sm), .val (.int so), .val (.int tO), .val (.int wo), .val (.int sb), .val (.int tb), .val (.int cb), .val (.int (Int32.ofNat k)), .val (.int (Int32.ofNat (own_a so n))), .val (.int (Int32.ofNat (own_t tO))), .val r, .val (.int ng), .val (.int sd), .val (.int td), .unset, .unset, .unset, .unset, .unset] [(.int wo)])
                              by_cases h433 : wo = 0
                              · show own_Go p e below _ Ti (mkF m 433 #[.val (.long q1), .second, .val (.int p2), .val (.int p3), .val (.int p4), .val (.int p5), .val (.ref b1), .val (.long mm), .second, .val (.ref b21), .val (.int (Int32.ofNat n)), .val (.int (Int32.ofNat (20 - n))), .val (.int sm), .val (.int so), .val (.int tO), .val (.int wo), .val (.int sb), .val (.int tb), .val (.int cb), .val (.int (Int32.ofNat k)), .val (.int (Int32.ofNat (own_a so n))), .val (.int (Int32.ofNat (own_t tO))), .val r, .val (.int ng), .val (.int sd), .val (.int td), .unset, .unset, .unset, .unset, .unset] [(.int wo)])
                                refine own_go (fun t_ k_ => XS.ifYes Xi.here hx rfl (pc0 := 433) (pc' := 444) rfl (hb hby at_433) rfl (XT.i0_eq_t h433) (by decide) (by decide) k_) ?_
                                show own_Go p e below _ Ti (mkF m 444 #[.val (.long q1), .second, .val (.int p2), .val (.int p3), .val (.int p4), .val (.int p5), .val (.ref b1), .val (.long mm), .second, .val (.ref b21), .val (.int (Int32.ofNat n)), .val (.int (Int32.ofNat (20 - n))), .val (.int sm), .val (.int so), .val (.int tO), .val (.int wo), .val (.int sb), .val (.int tb), .val (.int cb), .val (.int (Int32.ofNat k)), .val (.int (Int32.ofNat (own_a so n))), .val (.int (Int32.ofNat (own_t tO))), .val r, .val (.int ng), .val (.int sd), .val (.int td), .unset, .unset, .unset, .unset, .unset] [])
                                refine own_go (fun t_ k_ => XS.iconst Xi.here hx rfl (hb hby at_444) k_) ?_
                                show own_Go p e below _ Ti (mkF m 445 #[.val (.long q1), .second, .val (.int p2), .val (.int p3), .val (.int p4), .val (.int p5), .val (.ref b1), .val (.long mm), .second, .val (.ref b21), .val (.int (Int32.ofNat n)), .val (.int (Int32.ofNat (20 - n))), .val (.int sm), .val (.int so), .val (.int tO), .val (.int wo), .val (.int sb), .val (.int tb), .val (.int cb), .val (.int (Int32.ofNat k)), .val (.int (Int32.ofNat (own_a so n))), .val (.int (Int32.ofNat (own_t tO))), .val r, .val (.int ng), .val (.int sd), .val (.int td), .unset, .unset, .unset, .unset, .unset] [(.int (1 : Int32))])
                                refine own_go (fun t_ k_ => XS.goto Xi.here hx rfl (pc0 := 445) (pc' := 449) rfl (hb hby at_445) (by decide) (by decide) k_) ?_
                                show own_Go p e below _ Ti (mkF m 449 #[.val (.long q1), .second, .val (.int p2), .val (.int p3), .val (.int p4), .val (.int p5), .val (.ref b1), .val (.long mm), .second, .val (.ref b21), .val (.int (Int32.ofNat n)), .val (.int (Int32.ofNat (20 - n))), .val (.int sm), .val (.int so), .val (.int tO), .val (.int wo), .val (.int sb), .val (.int tb), .val (.int cb), .val (.int (Int32.ofNat k)), .val (.int (Int32.ofNat (own_a so n))), .val (.int (Int32.ofNat (own_t tO))), .val r, .val (.int ng), .val (.int sd), .val (.int td), .unset, .unset, .unset, .unset, .unset] [(.int (1 : Int32))])
                                exact j449 (1 : Int32) Ti _ Xi Ni ei ⟨fun z => absurd z (by decide), fun z => absurd (show own_OK tb wo cb so sb tO from ⟨Or.inl h408, Or.inr (Classical.byContradiction fun y => h428 (htd.mpr fun x => y x.2)), Or.inl h433⟩) z⟩
                              · show own_Go p e below _ Ti (mkF m 433 #[.val (.long q1), .second, .val (.int p2), .val (.int p3), .val (.int p4), .val (.int p5), .val (.ref b1), .val (.long mm), .second, .val (.ref b21), .val (.int (Int32.ofNat n)), .val (.int (Int32.ofNat (20 - n))), .val (.int sm), .val (.int so), .val (.int tO), .val (.int wo), .val (.int sb), .val (.int tb), .val (.int cb), .val (.int (Int32.ofNat k)), .val (.int (Int32.ofNat (own_a so n))), .val (.int (Int32.ofNat (own_t tO))), .val r, .val (.int ng), .val (.int sd), .val (.int td), .unset, .unset, .unset, .unset, .unset] [(.int wo)])
                                refine own_go (fun t_ k_ => XS.ifNo Xi.here hx rfl (hb hby at_433) rfl (XT.i0_eq_f h433) k_) ?_
                                show own_Go p e below _ Ti (mkF m 436 #[.val (.long q1), .second, .val (.int p2), .val (.int p3), .val (.int p4), .val (.int p5), .val (.ref b1), .val (.long mm), .second, .val (.ref b21), .val (.int (Int32.ofNat n)), .val (.int (Int32.ofNat (20 - n))), .val (.int sm), .val (.int so), .val (.int tO), .val (.int wo), .val (.int sb), .val (.int tb), .val (.int cb), .val (.int (Int32.ofNat k)), .val (.int (Int32.ofNat (own_a so n))), .val (.int (Int32.ofNat (own_t tO))), .val r, .val (.int ng), .val (.int sd), .val (.int td), .unset, .unset, .unset, .unset, .unset] [])
                                refine own_go (fun t_ k_ => XS.iload Xi.here hx rfl (hb hby at_436) rfl k_) ?_
                                show own_Go p e below _ Ti (mkF m 438 #[.val (.long q1), .second, .val (.int p2), .val (.int p3), .val (.int p4), .val (.int p5), .val (.ref b1), .val (.long mm), .second, .val (.ref b21), .val (.int (Int32.ofNat n)), .val (.int (Int32.ofNat (20 - n))), .val (.int sm), .val (.int so), .val (.int tO), .val (.int wo), .val (.int sb), .val (.int tb), .val (.int cb), .val (.int (Int32.ofNat k)), .val (.int (Int32.ofNat (own_a so n))), .val (.int (Int32.ofNat (own_t tO))), .val r, .val (.int ng), .val (.int sd), .val (.int td), .unset, .unset, .unset, .unset, .unset] [(.int cb)])
                                obtain ⟨_, T27, L27, X27, ⟨rfl, N27, e27⟩, st27⟩ := own_callS Xi hx hZ (y := (⟨"com/example/gridtally/gridtally/core/DecimalsIntegerPinLaw", "isDigit", "(B)Z"⟩ : MethodName)) (argsL := [(.int cb)]) (rest := []) (Ls := #[.val (.long q1), .second, .val (.int p2), .val (.int p3), .val (.int p4), .val (.int p5), .val (.ref b1), .val (.long mm), .second, .val (.ref b21), .val (.int (Int32.ofNat n)), .val (.int (Int32.ofNat (20 - n))), .val (.int sm), .val (.int so), .val (.int tO), .val (.int wo), .val (.int sb), .val (.int tb), .val (.int cb), .val (.int (Int32.ofNat k)), .val (.int (Int32.ofNat (own_a so n))), .val (.int (Int32.ofNat (own_t tO))), .val r, .val (.int ng), .val (.int sd), .val (.int td), .unset, .unset, .unset, .unset, .unset]) hown (own_w hw 58 rfl) (own_w hw 59 rfl) (own_w hw 23 rfl) (own_w hw 60 rfl) (by decide) ei (rmID l Z a0 hw [] cb T24.heap n0 (own_oldge old24)) 0 (by decide) (by decide) (by decide) (by decide) (by rw [hml]; rfl) (lenOf pd_2 rfl) rfl (Nat.le_of_eq rfl) (hb hby at_438)
                                have M27 := Fr.app Ni N27
                                refine own_go st27 ?_
                                show own_Go p e below _ T27 (mkF m 441 #[.val (.long q1), .second, .val (.int p2), .val (.int p3), .val (.int p4), .val (.int p5), .val (.ref b1), .val (.long mm), .second, .val (.ref b21), .val (.int (Int32.ofNat n)), .val (.int (Int32.ofNat (20 - n))), .val (.int sm), .val (.int so), .val (.int tO), .val (.int wo), .val (.int sb), .val (.int tb), .val (.int cb), .val (.int (Int32.ofNat k)), .val (.int (Int32.ofNat (own_a so n))), .val (.int (Int32.ofNat (own_t tO))), .val r, .val (.int ng), .val (.int sd), .val (.int td), .unset, .unset, .unset, .unset, .unset] [(.int (if own_dig cb then 1 else 0))])
                                by_cases h441 : ¬ own_dig cb
                                · show own_Go p e below _ T27 (mkF m 441 #[.val (.long q1), .second, .val (.int p2), .val (.int p3), .val (.int p4), .val (.int p5), .val (.ref b1), .val (.long mm), .second, .val (.ref b21), .val (.int (Int32.ofNat n)), .val (.int (Int32.ofNat (20 - n))), .val (.int sm), .val (.int so), .val (.int tO), .val (.int wo), .val (.int sb), .val (.int tb), .val (.int cb), .val (.int (Int32.ofNat k)), .val (.int (Int32.ofNat (own_a so n))), .val (.int (Int32.ofNat (own_t tO))), .val r, .val (.int ng), .val (.int sd), .val (.int td), .unset, .unset, .unset, .unset, .unset] [(.int (if own_dig cb then 1 else 0))])
                                  refine own_go (fun t_ k_ => XS.ifYes X27.here hx rfl (pc0 := 441) (pc' := 448) rfl (hb hby at_441) rfl (XT.i0_eq_t (own_ite0.mpr h441)) (by decide) (by decide) k_) ?_
                                  show own_Go p e below _ T27 (mkF m 448 #[.val (.long q1), .second, .val (.int p2), .val (.int p3), .val (.int p4), .val (.int p5), .val (.ref b1), .val (.long mm), .second, .val (.ref b21), .val (.int (Int32.ofNat n)), .val (.int (Int32.ofNat (20 - n))), .val (.int sm), .val (.int so), .val (.int tO), .val (.int wo), .val (.int sb), .val (.int tb), .val (.int cb), .val (.int (Int32.ofNat k)), .val (.int (Int32.ofNat (own_a so n))), .val (.int (Int32.ofNat (own_t tO))), .val r, .val (.int ng), .val (.int sd), .val (.int td), .unset, .unset, .unset, .unset, .unset] [])
                                  refine own_go (fun t_ k_ => XS.iconst X27.here hx rfl (hb hby at_448) k_) ?_
                                  show own_Go p e below _ T27 (mkF m 449 #[.val (.long q1), .second, .val (.int p2), .val (.int p3), .val (.int p4), .val (.int p5), .val (.ref b1), .val (.long mm), .second, .val (.ref b21), .val (.int (Int32.ofNat n)), .val (.int (Int32.ofNat (20 - n))), .val (.int sm), .val (.int so), .val (.int tO), .val (.int wo), .val (.int sb), .val (.int tb), .val (.int cb), .val (.int (Int32.ofNat k)), .val (.int (Int32.ofNat (own_a so n))), .val (.int (Int32.ofNat (own_t tO))), .val r, .val (.int ng), .val (.int sd), .val (.int td), .unset, .unset, .unset, .unset, .unset] [(.int (0 : Int32))])
                                  exact j449 (0 : Int32) T27 _ X27 M27 e27 ⟨fun _ => (fun y => y.2.2.elim h433 h441), fun _ => rfl⟩
                                · show own_Go p e below _ T27 (mkF m 441 #[.val (.long q1), .second, .val (.int p2), .val (.int p3), .val (.int p4), .val (.int p5), .val (.ref b1), .val (.long mm), .second, .val (.ref b21), .val (.int (Int32.ofNat n)), .val (.int (Int32.ofNat (20 - n))), .val (.int sm), .val (.int so), .val (.int tO), .val (.int wo), .val (.int sb), .val (.int tb), .val (.int cb), .val (.int (Int32.ofNat k)), .val (.int (Int32.ofNat (own_a so n))), .val (.int (Int32.ofNat (own_t tO))), .val r, .val (.int ng), .val (.int sd), .val (.int td), .unset, .unset, .unset, .unset, .unset] [(.int (if own_dig cb then 1 else 0))])
                                  refine own_go (fun t_ k_ => XS.ifNo X27.here hx rfl (hb hby at_441) rfl (XT.i0_eq_f (fun q => h441 (own_ite0.mp q))) k_) ?_
                                  show own_Go p e below _ T27 (mkF m 444 #[.val (.long q1), .second, .val (.int p2), .val (.int p3), .val (.int p4), .val (.int p5), .val (.ref b1), .val (.long mm), .second, .val (.ref b21), .val (.int (Int32.ofNat n)), .val (.int (Int32.ofNat (20 - n))), .val (.int sm), .val (.int so), .val (.int tO), .val (.int wo), .val (.int sb), .val (.int tb), .val (.int cb), .val (.int (Int32.ofNat k)), .val (.int (Int32.ofNat (own_a so n))), .val (.int (Int32.ofNat (own_t tO))), .val r, .val (.int ng), .val (.int sd), .val (.int td), .unset, .unset, .unset, .unset, .unset] [])
                                  refine own_go (fun t_ k_ => XS.iconst X27.here hx rfl (hb hby at_444) k_) ?_
                                  show own_Go p e below _ T27 (mkF m 445 #[.val (.long q1), .second, .val (.int p2), .val (.int p3), .val (.int p4), .val (.int p5), .val (.ref b1), .val (.long mm), .second, .val (.ref b21), .val (.int (Int32.ofNat n)), .val (.int (Int32.ofNat (20 - n))), .val (.int sm), .val (.int so), .val (.int tO), .val (.int wo), .val (.int sb), .val (.int tb), .val (.int cb), .val (.int (Int32.ofNat k)), .val (.int (Int32.ofNat (own_a so n))), .val (.int (Int32.ofNat (own_t tO))), .val r, .val (.int ng), .val (.int sd), .val (.int td), .unset, .unset, .unset, .unset, .unset] [(.int (1 : Int32))])
                                  refine own_go (fun t_ k_ => XS.goto X27.here hx rfl (pc0 := 445) (pc' := 449) rfl (hb hby at_445) (by decide) (by decide) k_) ?_
                                  show own_Go p e below _ T27 (mkF m 449 #[.val (.long q1), .second, .val (.int p2), .val (.int p3), .val (.int p4), .val (.int p5), .val (.ref b1), .val (.long mm), .second, .val (.ref b21), .val (.int (Int32.ofNat n)), .val (.int (Int32.ofNat (20 - n))), .val (.int sm), .val (.int so), .val (.int tO), .val (.int wo), .val (.int sb), .val (.int tb), .val (.int cb), .val (.int (Int32.ofNat k)), .val (.int (Int32.ofNat (own_a so n))), .val (.int (Int32.ofNat (own_t tO))), .val r, .val (.int ng), .val (.int sd), .val (.int td), .unset, .unset, .unset, .unset, .unset] [(.int (1 : Int32))])
                                  exact j449 (1 : Int32) T27 _ X27 M27 e27 ⟨fun z => absurd z (by decide), fun z => absurd (show own_OK tb wo cb so sb tO from ⟨Or.inl h408, Or.inr (Classical.byContradiction fun y => h428 (htd.mpr fun x => y x.2)), Or.inr (Classical.not_not.mp h441)⟩) z⟩
                        · show own_Go p e below _ Ti (mkF m 408 #[.val (.long q1), .second, .val (.int p2), .val (.int p3), .val (.int p4), .val (.int p5), .val (.ref b1), .val (.long mm), .second, .val (.ref b21), .val (.int (Int32.ofNat n)), .val (.int (Int32.ofNat (20 - n))), .val (.int sm), .val (.int so), .val (.int tO), .val (.int wo), .val (.int sb), .val (.int tb), .val (.int cb), .val (.int (Int32.ofNat k)), .val (.int (Int32.ofNat (own_a so n))), .val (.int (Int32.ofNat (own_t tO))), .val r, .val (.int ng), .val (.int sd), .val (.int td), .unset, .unset, .unset, .unset, .unset] [(.int so)])
                          refine own_go (fun t_ k_ => XS.ifNo Xi.here hx rfl (hb hby at_408) rfl (XT.i0_eq_f h408) k_) ?_
                          show own_Go p e below _ Ti (mkF m 411 #[.val (.long q1), .second, .val (.int p2), .val (.int p3), .val (.int p4), .val (.int p5), .val (.ref b1), .val (.long mm), .second, .val (.ref b21), .val (.int (Int32.ofNat n)), .val (.int (Int32.ofNat (20 - n))), .val (.int sm), .val (.int so), .val (.int tO), .val (.int wo), .val (.int sb), .val (.int tb), .val (.int cb), .val (.int (Int32.ofNat k)), .val (.int (Int32.ofNat (own_a so n))), .val (.int (Int32.ofNat (own_t tO))), .val r, .val (.int ng), .val (.int sd), .val (.int td), .unset, .unset, .unset, .unset, .unset] [])
                          refine own_go (fun t_ k_ => XS.iload Xi.here hx rfl (hb hby at_411) rfl k_) ?_
                          show own_Go p e below _ Ti (mkF m 413 #[.val (.long q1), .second, .val (.int p2), .val (.int p3), .val (.int p4), .val (.int p5), .val (.ref b1), .val (.long mm), .second, .val (.ref b21), .val (.int (Int32.ofNat n)), .val (.int (Int32.ofNat (20 - n))), .val (.int sm), .val (.int so), .val (.int tO), .val (.int wo), .val (.int sb), .val (.int tb), .val (.int cb), .val (.int (Int32.ofNat k)), .val (.int (Int32.ofNat (own_a so n))), .val (.int (Int32.ofNat (own_t tO))), .val r, .val (.int ng), .val (.int sd), .val (.int td), .unset, .unset, .unset, .unset, .unset] [(.int ng)])
                          by_cases h413 : ng = 0
                          · show own_Go p e below _ Ti (mkF m 413 #[.val (.long q1), .second, .val (.int p2), .val (.int p3), .val (.int p4), .val (.int p5), .val (.ref b1), .val (.long mm), .second, .val (.ref b21), .val (.int (Int32.ofNat n)), .val (.int (Int32.ofNat (20 - n))), .val (.int sm), .val (.int so), .val (.int tO), .val (.int wo), .val (.int sb), .val (.int tb), .val (.int cb), .val (.int (Int32.ofNat k)), .val (.int (Int32.ofNat (own_a so n))), .val (.int (Int32.ofNat (own_t tO))), .val r, .val (.int ng), .val (.int sd), .val (.int td), .unset, .unset, .unset, .unset, .unset] [(.int ng)])
                            refine own_go (fun t_ k_ => XS.ifNo Xi.here hx rfl (hb hby at_413) rfl (XT.i0_ne_f h413) k_) ?_
                            show own_Go p e below _ Ti (mkF m 416 #[.val (.long q1), .second, .val (.int p2), .val (.int p3), .val (.int p4), .val (.int p5), .val (.ref b1), .val (.long mm), .second, .val (.ref b21), .val (.int (Int32.ofNat n)), .val (.int (Int32.ofNat (20 - n))), .val (.int sm), .val (.int so), .val (.int tO), .val (.int wo), .val (.int sb), .val (.int tb), .val (.int cb), .val (.int (Int32.ofNat k)), .val (.int (Int32.ofNat (own_a so n))), .val (.int (Int32.ofNat (own_t tO))), .val r, .val (.int ng), .val (.int sd), .val (.int td), .unset, .unset, .unset, .unset, .unset] [])
                            refine own_go (fun t_ k_ => XS.iload Xi.here hx rfl (hb hby at_416) rfl k_) ?_
                            show own_Go p e below _ Ti (mkF m 418 #[.val (.long q1), .second, .val (.int p2), .val (.int p3), .val (.int p4), .val (.int p5), .val (.ref b1), .val (.long mm), .second, .val (.ref b21), .val (.int (Int32.ofNat n)), .val (.int (Int32.ofNat (20 - n))), .val (.int sm), .val (.int so), .val (.int tO), .val (.int wo), .val (.int sb), .val (.int tb), .val (.int cb), .val (.int (Int32.ofNat k)), .val (.int (Int32.ofNat (own_a so n))), .val (.int (Int32.ofNat (own_t tO))), .val r, .val (.int ng), .val (.int sd), .val (.int td), .unset, .unset, .unset, .unset, .unset] [(.int sd)])
                            by_cases h418 : sd = 0
                            · show own_Go p e below _ Ti (mkF m 418 #[.val (.long q1), .second, .val (.int p2), .val (.int p3), .val (.int p4), .val (.int p5), .val (.ref b1), .val (.long mm), .second, .val (.ref b21), .val (.int (Int32.ofNat n)), .val (.int (Int32.ofNat (20 - n))), .val (.int sm), .val (.int so), .val (.int tO), .val (.int wo), .val (.int sb), .val (.int tb), .val (.int cb), .val (.int (Int32.ofNat k)), .val (.int (Int32.ofNat (own_a so n))), .val (.int (Int32.ofNat (own_t tO))), .val r, .val (.int ng), .val (.int sd), .val (.int td), .unset, .unset, .unset, .unset, .unset] [(.int sd)])
                              refine own_go (fun t_ k_ => XS.ifYes Xi.here hx rfl (pc0 := 418) (pc' := 448) rfl (hb hby at_418) rfl (XT.i0_eq_t h418) (by decide) (by decide) k_) ?_
                              show own_Go p e below _ Ti (mkF m 448 #[.val (.long q1), .second, .val (.int p2), .val (.int p3), .val (.int p4), .val (.int p5), .val (.ref b1), .val (.long mm), .second, .val (.ref b21), .val (.int (Int32.ofNat n)), .val (.int (Int32.ofNat (20 - n))), .val (.int sm), .val (.int so), .val (.int tO), .val (.int wo), .val (.int sb), .val (.int tb), .val (.int cb), .val (.int (Int32.ofNat k)), .val (.int (Int32.ofNat (own_a so n))), .val (.int (Int32.ofNat (own_t tO))), .val r, .val (.int ng), .val (.int sd), .val (.int td), .unset, .unset, .unset, .unset, .unset] [])
                              refine own_go (fun t_ k_ => XS.iconst Xi.here hx rfl (hb hby at_448) k_) ?_
                              show own_Go p e below _ Ti (mkF m 449 #[.val (.long q1), .second, .val (.int p2), .val (.int p3), .val (.int p4), .val (.int p5), .val (.ref b1), .val (.long mm), .second, .val (.ref b21), .val (.int (Int32.ofNat n)), .val (.int (Int32.ofNat (20 - n))), .val (.int sm), .val (.int so), .val (.int tO), .val (.int wo), .val (.int sb), .val (.int tb), .val (.int cb), .val (.int (Int32.ofNat k)), .val (.int (Int32.ofNat (own_a so n))), .val (.int (Int32.ofNat (own_t tO))), .val r, .val (.int ng), .val (.int sd), .val (.int td), .unset, .unset, .unset, .unset, .unset] [(.int (0 : Int32))])
                              exact j449 (0 : Int32) Ti _ Xi Ni ei ⟨fun _ => (fun y => y.1.elim h408 (fun x => x.elim (fun x => hng.mp h413 ⟨h408, x⟩) (fun x => hsd.mp h418 ⟨h408, x⟩))), fun _ => rfl⟩
                            · show own_Go p e below _ Ti (mkF m 418 #[.val (.long q1), .second, .val (.int p2), .val (.int p3), .val (.int p4), .val (.int p5), .val (.ref b1), .val (.long mm), .second, .val (.ref b21), .val (.int (Int32.ofNat n)), .val (.int (Int32.ofNat (20 - n))), .val (.int sm), .val (.int so), .val (.int tO), .val (.int wo), .val (.int sb), .val (.int tb), .val (.int cb), .val (.int (Int32.ofNat k)), .val (.int (Int32.ofNat (own_a so n))), .val (.int (Int32.ofNat (own_t tO))), .val r, .val (.int ng), .val (.int sd), .val (.int td), .unset, .unset, .unset, .unset, .unset] [(.int sd)])
                              refine own_go (fun t_ k_ => XS.ifNo Xi.here hx rfl (hb hby at_418) rfl (XT.i0_eq_f h418) k_) ?_
                              show own_Go p e below _ Ti (mkF m 421 #[.val (.long q1), .second, .val (.int p2), .val (.int p3), .val (.int p4), .val (.int p5), .val (.ref b1), .val (.long mm), .second, .val (.ref b21), .val (.int (Int32.ofNat n)), .val (.int (Int32.ofNat (20 - n))), .val (.int sm), .val (.int so), .val (.int tO), .val (.int wo), .val (.int sb), .val (.int tb), .val (.int cb), .val (.int (Int32.ofNat k)), .val (.int (Int32.ofNat (own_a so n))), .val (.int (Int32.ofNat (own_t tO))), .val r, .val (.int ng), .val (.int sd), .val (.int td), .unset, .unset, .unset, .unset, .unset] [])
                              refine own_go (fun t_ k_ => XS.iload Xi.here hx rfl (hb hby at_421) rfl k_) ?_
                              show own_Go p e below _ Ti (mkF m 423 #[.val (.long q1), .second, .val (.int p2), .val (.int p3), .val (.int p4), .val (.int p5), .val (.ref b1), .val (.long mm), .second, .val (.ref b21), .val (.int (Int32.ofNat n)), .val (.int (Int32.ofNat (20 - n))), .val (.int sm), .val (.int so), .val (.int tO), .val (.int wo), .val (.int sb), .val (.int tb), .val (.int cb), .val (.int (Int32.ofNat k)), .val (.int (Int32.ofNat (own_a so n))), .val (.int (Int32.ofNat (own_t tO))), .val r, .val (.int ng), .val (.int sd), .val (.int td), .unset, .unset, .unset, .unset, .unset] [(.int tO)])
                              by_cases h423 : tO = 0
                              · show own_Go p e below _ Ti (mkF m 423 #[.val (.long q1), .second, .val (.int p2), .val (.int p3), .val (.int p4), .val (.int p5), .val (.ref b1), .val (.long mm), .second, .val (.ref b21), .val (.int (Int32.ofNat n)), .val (.int (Int32.ofNat (20 - n))), .val (.int sm), .val (.int so), .val (.int tO), .val (.int wo), .val (.int sb), .val (.int tb), .val (.int cb), .val (.int (Int32.ofNat k)), .val (.int (Int32.ofNat (own_a so n))), .val (.int (Int32.ofNat (own_t tO))), .val r, .val (.int ng), .val (.int sd), .val (.int td), .unset, .unset, .unset, .unset, .unset] [(.int tO)])
                                refine own_go (fun t_ k_ => XS.ifYes Xi.here hx rfl (pc0 := 423) (pc' := 431) rfl (hb hby at_423) rfl (XT.i0_eq_t h423) (by decide) (by decide) k_) ?_
                                show own_Go p e below _ Ti (mkF m 431 #[.val (.long q1), .second, .val (.int p2), .val (.int p3), .val (.int p4), .val (.int p5), .val (.ref b1), .val (.long mm), .second, .val (.ref b21), .val (.int (Int32.ofNat n)), .val (.int (Int32.ofNat (20 - n))), .val (.int sm), .val (.int so), .val (.int tO), .val (.int wo), .val (.int sb), .val (.int tb), .val (.int cb), .val (.int (Int32.ofNat k)), .val (.int (Int32.ofNat (own_a so n))), .val (.int (Int32.ofNat (own_t tO))), .val r, .val (.int ng), .val (.int sd), .val (.int td), .unset, .unset, .unset, .unset, .unset] [])
                                refine own_go (fun t_ k_ => XS.iload Xi.here hx rfl (hb hby at_431) rfl k_) ?_
                                show own_Go p e below _ Ti (mkF m 433 #[.val (.long q1), .second, .val (.int p2), .val (.int p3), .val (.int p4), .val (.int p5), .val (.ref b1), .val (.long mm), .second, .val (.ref b21), .val (.int (Int32.ofNat n)), .val (.int (Int32.ofNat (20 - n))), .val (.int sm), .val (.int so), .val (.int tO), .val (.int wo), .val (.int sb), .val (.int tb), .val (.int cb), .val (.int (Int32.ofNat k)), .val (.int (Int32.ofNat (own_a so n))), .val (.int (Int32.ofNat (own_t tO))), .val r, .val (.int ng), .val (.int sd), .val (.int td), .unset, .unset, .unset, .unset, .unset] [(.int wo)])
                                by_cases h433 : wo = 0
                                · show own_Go p e below _ Ti (mkF m 433 #[.val (.long q1), .second, .val (.int p2), .val (.int p3), .val (.int p4), .val (.int p5), .val (.ref b1), .val (.long mm), .second, .val (.ref b21), .val (.int (Int32.ofNat n)), .val (.int (Int32.ofNat (20 - n))), .val (.int sm), .val (.int so), .val (.int tO), .val (.int wo), .val (.int sb), .val (.int tb), .val (.int cb), .val (.int (Int32.ofNat k)), .val (.int (Int32.ofNat (own_a so n))), .val (.int (Int32.ofNat (own_t tO))), .val r, .val (.int ng), .val (.int sd), .val (.int td), .unset, .unset, .unset, .unset, .unset] [(.int wo)])
                                  refine own_go (fun t_ k_ => XS.ifYes Xi.here hx rfl (pc0 := 433) (pc' := 444) rfl (hb hby at_433) rfl (XT.i0_eq_t h433) (by decide) (by decide) k_) ?_
                                  show own_Go p e below _ Ti (mkF m 444 #[.val (.long q1), .second, .val (.int p2), .val (.int p3), .val (.int p4), .val (.int p5), .val (.ref b1), .val (.long mm), .second, .val (.ref b21), .val (.int (Int32.ofNat n)), .val (.int (Int32.ofNat (20 - n))), .val (.int sm), .val (.int so), .val (.int tO), .val (.int wo), .val (.int sb), .val (.int tb), .val (.int cb), .val (.int (Int32.ofNat k)), .val (.int (Int32.ofNat (own_a so n))), .val (.int (Int32.ofNat (own_t tO))), .val r, .val (.int ng), .val (.int sd), .val (.int td), .unset, .unset, .unset, .unset, .unset] [])
                                  refine own_go (fun t_ k_ => XS.iconst Xi.here hx rfl (hb hby at_444) k_) ?_
                                  show own_Go p e below _ Ti (mkF m 445 #[.val (.long q1), .second, .val (.int p2), .val (.int p3), .val (.int p4), .val (.int p5), .val (.ref b1), .val (.long mm), .second, .val (.ref b21), .val (.int (Int32.ofNat n)), .val (.int (Int32.ofNat (20 - n))), .val (.int sm), .val (.int so), .val (.int tO), .val (.int wo), .val (.int sb), .val (.int tb), .val (.int cb), .val (.int (Int32.ofNat k)), .val (.int (Int32.ofNat (own_a so n))), .val (.int (Int32.ofNat (own_t tO))), .val r, .val (.int ng), .val (.int sd), .val (.int td), .unset, .unset, .unset, .unset, .unset] [(.int (1 : Int32))])
                                  refine own_go (fun t_ k_ => XS.goto Xi.here hx rfl (pc0 := 445) (pc' := 449) rfl (hb hby at_445) (by decide) (by decide) k_) ?_
                                  show own_Go p e below _ Ti (mkF m 449 #[.val (.long q1), .second, .val (.int p2), .val (.int p3), .val (.int p4), .val (.int p5), .val (.ref b1), .val (.long mm), .second, .val (.ref b21), .val (.int (Int32.ofNat n)), .val (.int (Int32.ofNat (20 - n))), .val (.int sm), .val (.int so), .val (.int tO), .val (.int wo), .val (.int sb), .val (.int tb), .val (.int cb), .val (.int (Int32.ofNat k)), .val (.int (Int32.ofNat (own_a so n))), .val (.int (Int32.ofNat (own_t tO))), .val r, .val (.int ng), .val (.int sd), .val (.int td), .unset, .unset, .unset, .unset, .unset] [(.int (1 : Int32))])
                                  exact j449 (1 : Int32) Ti _ Xi Ni ei ⟨fun z => absurd z (by decide), fun z => absurd (show own_OK tb wo cb so sb tO from ⟨Or.inr (Or.inr (Classical.byContradiction fun y => h418 (hsd.mpr fun x => y x.2))), Or.inl h423, Or.inl h433⟩) z⟩
                                · show own_Go p e below _ Ti (mkF m 433 #[.val (.long q1), .second, .val (.int p2), .val (.int p3), .val (.int p4), .val (.int p5), .val (.ref b1), .val (.long mm), .second, .val (.ref b21), .val (.int (Int32.ofNat n)), .val (.int (Int32.ofNat (20 - n))), .val (.int sm), .val (.int so), .val (.int tO), .val (.int wo), .val (.int sb), .val (.int tb), .val (.int cb), .val (.int (Int32.ofNat k)), .val (.int (Int32.ofNat (own_a so n))), .val (.int (Int32.ofNat (own_t tO))), .val r, .val (.int ng), .val (.int sd), .val (.int td), .unset, .unset, .unset, .unset, .unset] [(.int wo)])
                                  refine own_go (fun t_ k_ => XS.ifNo Xi.here hx rfl (hb hby at_433) rfl (XT.i0_eq_f h433) k_) ?_
                                  show own_Go p e below _ Ti (mkF m 436 #[.val (.long q1), .second, .val (.int p2), .val (.int p3), .val (.int p4), .val (.int p5), .val (.ref b1), .val (.long mm), .second, .val (.ref b21), .val (.int (Int32.ofNat n)), .val (.int (Int32.ofNat (20 - n))), .val (.int sm), .val (.int so), .val (.int tO), .val (.int wo), .val (.int sb), .val (.int tb), .val (.int cb), .val (.int (Int32.ofNat k)), .val (.int (Int32.ofNat (own_a so n))), .val (.int (Int32.ofNat (own_t tO))), .val r, .val (.int ng), .val (.int sd), .val (.int td), .unset, .unset, .unset, .unset, .unset] [])
                                  refine own_go (fun t_ k_ => XS.iload Xi.here hx rfl (hb hby at_436) rfl k_) ?_
                                  show own_Go p e below _ Ti (mkF m 438 #[.val (.long q1), .second, .val (.int p2), .val (.int p3), .val (.int p4), .val (.int p5), .val (.ref b1), .val (.long mm), .second, .val (.ref b21), .val (.int (Int32.ofNat n)), .val (.int (Int32.ofNat (20 - n))), .val (.int sm), .val (.int so), .val (.int tO), .val (.int wo), .val (.int sb), .val (.int tb), .val (.int cb), .val (.int (Int32.ofNat k)), .val (.int (Int32.ofNat (own_a so n))), .val (.int (Int32.ofNat (own_t tO))), .val r, .val (.int ng), .val (.int sd), .val (.int td), .unset, .unset, .unset, .unset, .unset] [(.int cb)])
                                  obtain ⟨_, T28, L28, X28, ⟨rfl, N28, e28⟩, st28⟩ := own_callS Xi hx hZ (y := (⟨"com/example/gridtally/gridtally/core/DecimalsIntegerPinLaw", "isDigit", "(B)Z"⟩ : MethodName)) (argsL := [(.int cb)]) (rest := []) (Ls := #[.val (.long q1), .second, .val (.int p2), .val (.int p3), .val (.int p4), .val (.int p5), .val (.ref b1), .val (.long mm), .second, .val (.ref b21), .val (.int (Int32.ofNat n)), .val (.int (Int32.ofNat (20 - n))), .val (.int sm), .val (.int so), .val (.int tO), .val (.int wo), .val (.int sb), .val (.int tb), .val (.int cb), .val (.int (Int32.ofNat k)), .val (.int (Int32.ofNat (own_a so n))), .val (.int (Int32.ofNat (own_t tO))), .val r, .val (.int ng), .val (.int sd), .val (.int td), .unset, .unset, .unset, .unset, .unset]) hown (own_w hw 58 rfl) (own_w hw 59 rfl) (own_w hw 23 rfl) (own_w hw 60 rfl) (by decide) ei (rmID l Z a0 hw [] cb T24.heap n0 (own_oldge old24)) 0 (by decide) (by decide) (by decide) (by decide) (by rw [hml]; rfl) (lenOf pd_2 rfl) rfl (Nat.le_of_eq rfl) (hb hby at_438)
                                  have M28 := Fr.app Ni N28
                                  refine own_go st28 ?_
                                  show own_Go p e below _ T28 (mkF m 441 #[.val (.long q1), .second, .val (.int p2), .val (.int p3), .val (.int p4), .val (.int p5), .val (.ref b1), .val (.long mm), .second, .val (.ref b21), .val (.int (Int32.ofNat n)), .val (.int (Int32.ofNat (20 - n))), .val (.int sm), .val (.int so), .val (.int tO), .val (.int wo), .val (.int sb), .val (.int tb), .val (.int cb), .val (.int (Int32.ofNat k)), .val (.int (Int32.ofNat (own_a so n))), .val (.int (Int32.ofNat (own_t tO))), .val r, .val (.int ng), .val (.int sd), .val (.int td), .unset, .unset, .unset, .unset, .unset] [(.int (if own_dig cb then 1 else 0))])
                                  by_cases h441 : ¬ own_dig cb
                                  · show own_Go p e below _ T28 (mkF m 441 #[.val (.long q1), .second, .val (.int p2), .val (.int p3), .val (.int p4), .val (.int p5), .val (.ref b1), .val (.long mm), .second, .val (.ref b21), .val (.int (Int32.ofNat n)), .val (.int (Int32.ofNat (20 - n))), .val (.int sm), .val (.int so), .val (.int tO), .val (.int wo), .val (.int sb), .val (.int tb), .val (.int cb), .val (.int (Int32.ofNat k)), .val (.int (Int32.ofNat (own_a so n))), .val (.int (Int32.ofNat (own_t tO))), .val r, .val (.int ng), .val (.int sd), .val (.int td), .unset, .unset, .unset, .unset, .unset] [(.int (if own_dig cb then 1 else 0))])
                                    refine own_go (fun t_ k_ => XS.ifYes X28.here hx rfl (pc0 := 441) (pc' := 448) rfl (hb hby at_441) rfl (XT.i0_eq_t (own_ite0.mpr h441)) (by decide) (by decide) k_) ?_
                                    show own_Go p e below _ T28 (mkF m 448 #[.val (.long q1), .second, .val (.int p2), .val (.int p3), .val (.int p4), .val (.int p5), .val (.ref b1), .val (.long mm), .second, .val (.ref b21), .val (.int (Int32.ofNat n)), .val (.int (Int32.ofNat (20 - n))), .val (.int sm), .val (.int so), .val (.int tO), .val (.int wo), .val (.int sb), .val (.int tb), .val (.int cb), .val (.int (Int32.ofNat k)), .val (.int (Int32.ofNat (own_a so n))), .val (.int (Int32.ofNat (own_t tO))), .val r, .val (.int ng), .val (.int sd), .val (.int td), .unset, .unset, .unset, .unset, .unset] [])
                                    refine own_go (fun t_ k_ => XS.iconst X28.here hx rfl (hb hby at_448) k_) ?_
                                    show own_Go p e below _ T28 (mkF m 449 #[.val (.long q1), .second, .val (.int p2), .val (.int p3), .val (.int p4), .val (.int p5), .val (.ref b1), .val (.long mm), .second, .val (.ref b21), .val (.int (Int32.ofNat n)), .val (.int (Int32.ofNat (20 - n))), .val (.int sm), .val (.int so), .val (.int tO), .val (.int wo), .val (.int sb), .val (.int tb), .val (.int cb), .val (.int (Int32.ofNat k)), .val (.int (Int32.ofNat (own_a so n))), .val (.int (Int32.ofNat (own_t tO))), .val r, .val (.int ng), .val (.int sd), .val (.int td), .unset, .unset, .unset, .unset, .unset] [(.int (0 : Int32))])
                                    exact j449 (0 : Int32) T28 _ X28 M28 e28 ⟨fun _ => (fun y => y.2.2.elim h433 h441), fun _ => rfl⟩
                                  · show own_Go p e below _ T28 (mkF m 441 #[.val (.long q1), .second, .val (.int p2), .val (.int p3), .val (.int p4), .val (.int p5), .val (.ref b1), .val (.long mm), .second, .val (.ref b21), .val (.int (Int32.ofNat n)), .val (.int (Int32.ofNat (20 - n))), .val (.int sm), .val (.int so), .val (.int tO), .val (.int wo), .val (.int sb), .val (.int tb), .val (.int cb), .val (.int (Int32.ofNat k)), .val (.int (Int32.ofNat (own_a so n))), .val (.int (Int32.ofNat (own_t tO))), .val r, .val (.int ng), .val (.int sd), .val (.int td), .unset, .unset, .unset, .unset, .unset] [(.int (if own_dig cb then 1 else 0))])
                                    refine own_go (fun t_ k_ => XS.ifNo X28.here hx rfl (hb hby at_441) rfl (XT.i0_eq_f (fun q => h441 (own_ite0.mp q))) k_) ?_
                                    show own_Go p e below _ T28 (mkF m 444 #[.val (.long q1), .second, .val (.int p2), .val (.int p3), .val (.int p4), .val (.int p5), .val (.ref b1), .val (.long mm), .second, .val (.ref b21), .val (.int (Int32.ofNat n)), .val (.int (Int32.ofNat (20 - n))), .val (.int sm), .val (.int so), .val (.int tO), .val (.int wo), .val (.int sb), .val (.int tb), .val (.int cb), .val (.int (Int32.ofNat k)), .val (.int (Int32.ofNat (own_a so n))), .val (.int (Int32.ofNat (own_t tO))), .val r, .val (.int ng), .val (.int sd), .val (.int td), .unset, .unset, .unset, .unset, .unset] [])
                                    refine own_go (fun t_ k_ => XS.iconst X28.here hx rfl (hb hby at_444) k_) ?_
                                    show own_Go p e below _ T28 (mkF m 445 #[.val (.long q1), .second, .val (.int p2), .val (.int p3), .val (.int p4), .val (.int p5), .val (.ref b1), .val (.long mm), .second, .val (.ref b21), .val (.int (Int32.ofNat n)), .val (.int (Int32.ofNat (20 - n))), .val (.int sm), .val (.int so), .val (.int tO), .val (.int wo), .val (.int sb), .val (.int tb), .val (.int cb), .val (.int (Int32.ofNat k)), .val (.int (Int32.ofNat (own_a so n))), .val (.int (Int32.ofNat (own_t tO))), .val r, .val (.int ng), .val (.int sd), .val (.int td), .unset, .unset, .unset, .unset, .unset] [(.int (1 : Int32))])
                                    refine own_go (fun t_ k_ => XS.goto X28.here hx rfl (pc0 := 445) (pc' := 449) rfl (hb hby at_445) (by decide) (by decide) k_) ?_
                                    show own_Go p e below _ T28 (mkF m 449 #[.val (.long q1), .second, .val (.int p2), .val (.int p3), .val (.int p4), .val (.int p5), .val (.ref b1), .val (.long mm), .second, .val (.ref b21), .val (.int (Int32.ofNat n)), .val (.int (Int32.ofNat (20 - n))), .val (.int sm), .val (.int so), .val (.int tO), .val (.int wo), .val (.int sb), .val (.int tb), .val (.int cb), .val (.int (Int32.ofNat k)), .val (.int (Int32.ofNat (own_a so n))), .val (.int (Int32.ofNat (own_t tO))), .val r, .val (.int ng), .val (.int sd), .val (.int td), .unset, .unset, .unset, .unset, .unset] [(.int (1 : Int32))])
                                    exact j449 (1 : Int32) T28 _ X28 M28 e28 ⟨fun z => absurd z (by decide), fun z => absurd (show own_OK tb wo cb so sb tO from ⟨Or.inr (Or.inr (Classical.byContradiction fun y => h418 (hsd.mpr fun x => y x.2))), Or.inl h423, Or.inr (Classical.not_not.mp h441)⟩) z⟩
                              · show own_Go p e below _ Ti (mkF m 423 #[.val (.long q1), .second, .val (.int p2), .val (.int p3), .val (.int p4), .val (.int p5), .val (.ref b1), .val (.long mm), .second, .val (.ref b21), .val (.int (Int32.ofNat n)), .val (.int (Int32.ofNat (20 - n))), .val (.int sm), .val (.int so), .val (.int tO), .val (.int wo), .val (.int sb), .val (.int tb), .val (.int cb), .val (.int (Int32.ofNat k)), .val (.int (Int32.ofNat (own_a so n))), .val (.int (Int32.ofNat (own_t tO))), .val r, .val (.int ng), .val (.int sd), .val (.int td), .unset, .unset, .unset, .unset, .unset] [(.int tO)])
                                refine own_go (fun t_ k_ => XS.ifNo Xi.here hx rfl (hb hby at_423) rfl (XT.i0_eq_f h423) k_) ?_
                                show own_Go p e below _ Ti (mkF m 426 #[.val (.long q1), .second, .val (.int p2), .val (.int p3), .val (.int p4), .val (.int p5), .val (.ref b1), .val (.long mm), .second, .val (.ref b21), .val (.int (Int32.ofNat n)), .val (.int (Int32.ofNat (20 - n))), .val (.int sm), .val (.int so), .val (.int tO), .val (.int wo), .val (.int sb), .val (.int tb), .val (.int cb), .val (.int (Int32.ofNat k)), .val (.int (Int32.ofNat (own_a so n))), .val (.int (Int32.ofNat (own_t tO))), .val r, .val (.int ng), .val (.int sd), .val (.int td), .unset, .unset, .unset, .unset, .unset] [])
                                refine own_go (fun t_ k_ => XS.iload Xi.here hx rfl (hb hby at_426) rfl k_) ?_
                                show own_Go p e below _ Ti (mkF m 428 #[.val (.long q1), .second, .val (.int p2), .val (.int p3), .val (.int p4), .val (.int p5), .val (.ref b1), .val (.long mm), .second, .val (.ref b21), .val (.int (Int32.ofNat n)), .val (.int (Int32.ofNat (20 - n))), .val (.int sm), .val (.int so), .val (.int tO), .val (.int wo), .val (.int sb), .val (.int tb), .val (.int cb), .val (.int (Int32.ofNat k)), .val (.int (Int32.ofNat (own_a so n))), .val (.int (Int32.ofNat (own_t tO))), .val r, .val (.int ng), .val (.int sd), .val (.int td), .unset, .unset, .unset, .unset, .unset] [(.int td)])
                                by_cases h428 : td = 0
                                · show own_Go p e below _ Ti (mkF m 428 #[.val (.long q1), .second, .val (.int p2), .val (.int p3), .val (.int p4), .val (.int p5), .val (.ref b1), .val (.long mm), .second, .val (.ref b21), .val (.int (Int32.ofNat n)), .val (.int (Int32.ofNat (20 - n))), .val (.int sm), .val (.int so), .val (.int tO), .val (.int wo), .val (.int sb), .val (.int tb), .val (.int cb), .val (.int (Int32.ofNat k)), .val (.int (Int32.ofNat (own_a so n))), .val (.int (Int32.ofNat (own_t tO))), .val r, .val (.int ng), .val (.int sd), .val (.int td), .unset, .unset, .unset, .unset, .unset] [(.int td)])
                                  refine own_go (fun t_ k_ => XS.ifYes Xi.here hx rfl (pc0 := 428) (pc' := 448) rfl (hb hby at_428) rfl (XT.i0_eq_t h428) (by decide) (by decide) k_) ?_
                                  show own_Go p e below _ Ti (mkF m 448 #[.val (.long q1), .second, .val (.int p2), .val (.int p3), .val (.int p4), .val (.int p5), .val (.ref b1), .val (.long mm), .second, .val (.ref b21), .val (.int (Int32.ofNat n)), .val (.int (Int32.ofNat (20 - n))), .val (.int sm), .val (.int so), .val (.int tO), .val (.int wo), .val (.int sb), .val (.int tb), .val (.int cb), .val (.int (Int32.ofNat k)), .val (.int (Int32.ofNat (own_a so n))), .val (.int (Int32.ofNat (own_t tO))), .val r, .val (.int ng), .val (.int sd), .val (.int td), .unset, .unset, .unset, .unset, .unset] [])
                                  refine own_go (fun t_ k_ => XS.iconst Xi.here hx rfl (hb hby at_448) k_) ?_
                                  show own_Go p e below _ Ti (mkF m 449 #[.val (.long q1), .second, .val (.int p2), .val (.int p3), .val (.int p4), .val (.int p5), .val (.ref b1), .val (.long mm), .second, .val (.ref b21), .val (.int (Int32.ofNat n)), .val (.int (Int32.ofNat (20 - n))), .val (.int sm), .val (.int so), .val (.int tO), .val (.int wo), .val (.int sb), .val (.int tb), .val (.int cb), .val (.int (Int32.ofNat k)), .val (.int (Int32.ofNat (own_a so n))), .val (.int (Int32.ofNat (own_t tO))), .val r, .val (.int ng), .val (.int sd), .val (.int td), .unset, .unset, .unset, .unset, .unset] [(.int (0 : Int32))])
                                  exact j449 (0 : Int32) Ti _ Xi Ni ei ⟨fun _ => (fun y => y.2.1.elim h423 (fun x => htd.mp h428 ⟨h423, x⟩)), fun _ => rfl⟩
                                · show own_Go p e below _ Ti (mkF m 428 #[.val (.long q1), .second, .val (.int p2), .val (.int p3), .val (.int p4), .val (.int p5), .val (.ref b1), .val (.long mm), .second, .val (.ref b21), .val (.int (Int32.ofNat n)), .val (.int (Int32.ofNat (20 - n))), .val (.int sm), .val (.int so), .val (.int tO), .val (.int wo), .val (.int sb), .val (.int tb), .val (.int cb), .val (.int (Int32.ofNat k)), .val (.int (Int32.ofNat (own_a so n))), .val (.int (Int32.ofNat (own_t tO))), .val r, .val (.int ng), .val (.int sd), .val (.int td), .unset, .unset, .unset, .unset, .unset] [(.int td)])
                                  refine own_go (fun t_ k_ => XS.ifNo Xi.here hx rfl (hb hby at_428) rfl (XT.i0_eq_f h428) k_) ?_
                                  show own_Go p e below _ Ti (mkF m 431 #[.val (.long q1), .second, .val (.int p2), .val (.int p3), .val (.int p4), .val (.int p5), .val (.ref b1), .val (.long mm), .second, .val (.ref b21), .val (.int (Int32.ofNat n)), .val (.int (Int32.ofNat (20 - n))), .val (.int sm), .val (.int so), .val (.int tO), .val (.int wo), .val (.int sb), .val (.int tb), .val (.int cb), .val (.int (Int32.ofNat k)), .val (.int (Int32.ofNat (own_a so n))), .val (.int (Int32.ofNat (own_t tO))), .val r, .val (.int ng), .val (.int sd), .val (.int td), .unset, .unset, .unset, .unset, .unset] [])
                                  refine own_go (fun t_ k_ => XS.iload Xi.here hx rfl (hb hby at_431) rfl k_) ?_
                                  show own_Go p e below _ Ti (mkF m 433 #[.val (.long q1), .second, .val (.int p2), .val (.int p3), .val (.int p4), .val (.int p5), .val (.ref b1), .val (.long mm), .second, .val (.ref b21), .val (.int (Int32.ofNat n)), .val (.int (Int32.ofNat (20 - n))), .val (.int sm), .val (.int so), .val (.int tO), .val (.int wo), .val (.int sb), .val (.int tb), .val (.int cb), .val (.int (Int32.ofNat k)), .val (.int (Int32.ofNat (own_a so n))), .val (.int (Int32.ofNat (own_t tO))), .val r, .val (.int ng), .val (.int sd), .val (.int td), .unset, .unset, .unset, .unset, .unset] [(.int wo)])
                                  by_cases h433 : wo = 0
                                  · show own_Go p e below _ Ti (mkF m 433 #[.val (.long q1), .second, .val (.int p2), .val (.int p3), .val (.int p4), .val (.int p5), .val (.ref b1), .val (.long mm), .second, .val (.ref b21), .val (.int (Int32.ofNat n)), .val (.int (Int32.ofNat (20 - n))), .val (.int sm), .val (.int so), .val (.int tO), .val (.int wo), .val (.int sb), .val (.int tb), .val (.int cb), .val (.int (Int32.ofNat k)), .val (.int (Int32.ofNat (own_a so n))), .val (.int (Int32.ofNat (own_t tO))), .val r, .val (.int ng), .val (.int sd), .val (.int td), .unset, .unset, .unset, .unset, .unset] [(.int wo)])
                                    refine own_go (fun t_ k_ => XS.ifYes Xi.here hx rfl (pc0 := 433) (pc' := 444) rfl (hb hby at_433) rfl (XT.i0_eq_t h433) (by decide) (by decide) k_) ?_
                                    show own_Go p e below _ Ti (mkF m 444 #[.val (.long q1), .second, .val (.int p2), .val (.int p3), .val (.int p4), .val (.int p5), .val (.ref b1), .val (.long mm), .second, .val (.ref b21), .val (.int (Int32.ofNat n)), .val (.int (Int32.ofNat (20 - n))), .val (.int sm), .val (.int so), .val (.int tO), .val (.int wo), .val (.int sb), .val (.int tb), .val (.int cb), .val (.int (Int32.ofNat k)), .val (.int (Int32.ofNat (own_a so n))), .val (.int (Int32.ofNat (own_t tO))), .val r, .val (.int ng), .val (.int sd), .val (.int td), .unset, .unset, .unset, .unset, .unset] [])
                                    refine own_go (fun t_ k_ => XS.iconst Xi.here hx rfl (hb hby at_444) k_) ?_
                                    show own_Go p e below _ Ti (mkF m 445 #[.val (.long q1), .second, .val (.int p2), .val (.int p3), .val (.int p4), .val (.int p5), .val (.ref b1), .val (.long mm), .second, .val (.ref b21), .val (.int (Int32.ofNat n)), .val (.int (Int32.ofNat (20 - n))), .val (.int sm), .val (.int so), .val (.int tO), .val (.int wo), .val (.int sb), .val (.int tb), .val (.int cb), .val (.int (Int32.ofNat k)), .val (.int (Int32.ofNat (own_a so n))), .val (.int (Int32.ofNat (own_t tO))), .val r, .val (.int ng), .val (.int sd), .val (.int td), .unset, .unset, .unset, .unset, .unset] [(.int (1 : Int32))])
                                    refine own_go (fun t_ k_ => XS.goto Xi.here hx rfl (pc0 := 445) (pc' := 449) rfl (hb hby at_445) (by decide) (by decide) k_) ?_
                                    show own_Go p e below _ Ti (mkF m 449 #[.val (.long q1), .second, .val (.int p2), .val (.int p3), .val (.int p4), .val (.int p5), .val (.ref b1), .val (.long mm), .second, .val (.ref b21), .val (.int (Int32.ofNat n)), .val (.int (Int32.ofNat (20 - n))), .val (.int sm), .val (.int so), .val (.int tO), .val (.int wo), .val (.int sb), .val (.int tb), .val (.int cb), .val (.int (Int32.ofNat k)), .val (.int (Int32.ofNat (own_a so n))), .val (.int (Int32.ofNat (own_t tO))), .val r, .val (.int ng), .val (.int sd), .val (.int td), .unset, .unset, .unset, .unset, .unset] [(.int (1 : Int32))])
                                    exact j449 (1 : Int32) Ti _ Xi Ni ei ⟨fun z => absurd z (by decide), fun z => absurd (show own_OK tb wo cb so sb tO from ⟨Or.inr (Or.inr (Classical.byContradiction fun y => h418 (hsd.mpr fun x => y x.2))), Or.inr (Classical.byContradiction fun y => h428 (htd.mpr fun x => y x.2)), Or.inl h433⟩) z⟩
                                  · show own_Go p e below _ Ti (mkF m 433 #[.val (.long q1), .second, .val (.int p2), .val (.int p3), .val (.int p4), .val (.int p5), .val (.ref b1), .val (.long mm), .second, .val (.ref b21), .val (.int (Int32.ofNat n)), .val (.int (Int32.ofNat (20 - n))), .val (.int sm), .val (.int so), .val (.int tO), .val (.int wo), .val (.int sb), .val (.int tb), .val (.int cb), .val (.int (Int32.ofNat k)), .val (.int (Int32.ofNat (own_a so n))), .val (.int (Int32.ofNat (own_t tO))), .val r, .val (.int ng), .val (.int sd), .val (.int td), .unset, .unset, .unset, .unset, .unset] [(.int wo)])
                                    refine own_go (fun t_ k_ => XS.ifNo Xi.here hx rfl (hb hby at_433) rfl (XT.i0_eq_f h433) k_) ?_
                                    show own_Go p e below _ Ti (mkF m 436 #[.val (.long q1), .second, .val (.int p2), .val (.int p3), .val (.int p4), .val (.int p5), .val (.ref b1), .val (.long mm), .second, .val (.ref b21), .val (.int (Int32.ofNat n)), .val (.int (Int32.ofNat (20 - n))), .val (.int sm), .val (.int so), .val (.int tO), .val (.int wo), .val (.int sb), .val (.int tb), .val (.int cb), .val (.int (Int32.ofNat k)), .val (.int (Int32.ofNat (own_a so n))), .val (.int (Int32.ofNat (own_t tO))), .val r, .val (.int ng), .val (.int sd), .val (.int td), .unset, .unset, .unset, .unset, .unset] [])
                                    refine own_go (fun t_ k_ => XS.iload Xi.here hx rfl (hb hby at_436) rfl k_) ?_
                                    show own_Go p e below _ Ti (mkF m 438 #[.val (.long q1), .second, .val (.int p2), .val (.int p3), .val (.int p4), .val (.int p5), .val (.ref b1), .val (.long mm), .second, .val (.ref b21), .val (.int (Int32.ofNat n)), .val (.int (Int32.ofNat (20 - n))), .val (.int sm), .val (.int so), .val (.int tO), .val (.int wo), .val (.int sb), .val (.int tb), .val (.int cb), .val (.int (Int32.ofNat k)), .val (.int (Int32.ofNat (own_a so n))), .val (.int (Int32.ofNat (own_t tO))), .val r, .val (.int ng), .val (.int sd), .val (.int td), .unset, .unset, .unset, .unset, .unset] [(.int cb)])
                                    obtain ⟨_, T29, L29, X29, ⟨rfl, N29, e29⟩, st29⟩ := own_callS Xi hx hZ (y := (⟨"com/example/gridtally/gridtally/core/DecimalsIntegerPinLaw", "isDigit", "(B)Z"⟩ : MethodName)) (argsL := [(.int cb)]) (rest := []) (Ls := #[.val (.long q1), .second, .val (.int p2), .val (.int p3), .val (.int p4), .val (.int p5), .val (.ref b1), .val (.long mm), .second, .val (.ref b21), .val (.int (Int32.ofNat n)), .val (.int (Int32.ofNat (20 - n))), .val (.int sm), .val (.int so), .val (.int tO), .val (.int wo), .val (.int sb), .val (.int tb), .val (.int cb), .val (.int (Int32.ofNat k)), .val (.int (Int32.ofNat (own_a so n))), .val (.int (Int32.ofNat (own_t tO))), .val r, .val (.int ng), .val (.int sd), .val (.int td), .unset, .unset, .unset, .unset, .unset]) hown (own_w hw 58 rfl) (own_w hw 59 rfl) (own_w hw 23 rfl) (own_w hw 60 rfl) (by decide) ei (rmID l Z a0 hw [] cb T24.heap n0 (own_oldge old24)) 0 (by decide) (by decide) (by decide) (by decide) (by rw [hml]; rfl) (lenOf pd_2 rfl) rfl (Nat.le_of_eq rfl) (hb hby at_438)
                                    have M29 := Fr.app Ni N29
                                    refine own_go st29 ?_
                                    show own_Go p e below _ T29 (mkF m 441 #[.val (.long q1), .second, .val (.int p2), .val (.int p3), .val (.int p4), .val (.int p5), .val (.ref b1), .val (.long mm), .second, .val (.ref b21), .val (.int (Int32.ofNat n)), .val (.int (Int32.ofNat (20 - n))), .val (.int sm), .val (.int so), .val (.int tO), .val (.int wo), .val (.int sb), .val (.int tb), .val (.int cb), .val (.int (Int32.ofNat k)), .val (.int (Int32.ofNat (own_a so n))), .val (.int (Int32.ofNat (own_t tO))), .val r, .val (.int ng), .val (.int sd), .val (.int td), .unset, .unset, .unset, .unset, .unset] [(.int (if own_dig cb then 1 else 0))])
                                    by_cases h441 : ¬ own_dig cb
                                    · show own_Go p e below _ T29 (mkF m 441 #[.val (.long q1), .second, .val (.int p2), .val (.int p3), .val (.int p4), .val (.int p5), .val (.ref b1), .val (.long mm), .second, .val (.ref b21), .val (.int (Int32.ofNat n)), .val (.int (Int32.ofNat (20 - n))), .val (.int sm), .val (.int so), .val (.int tO), .val (.int wo), .val (.int sb), .val (.int tb), .val (.int cb), .val (.int (Int32.ofNat k)), .val (.int (Int32.ofNat (own_a so n))), .val (.int (Int32.ofNat (own_t tO))), .val r, .val (.int ng), .val (.int sd), .val (.int td), .unset, .unset, .unset, .unset, .unset] [(.int (if own_dig cb then 1 else 0))])
                                      refine own_go (fun t_ k_ => XS.ifYes X29.here hx rfl (pc0 := 441) (pc' := 448) rfl (hb hby at_441) rfl (XT.i0_eq_t (own_ite0.mpr h441)) (by decide) (by decide) k_) ?_
                                      show own_Go p e below _ T29 (mkF m 448 #[.val (.long q1), .second, .val (.int p2), .val (.int p3), .val (.int p4), .val (.int p5), .val (.ref b1), .val (.long mm), .second, .val (.ref b21), .val (.int (Int32.ofNat n)), .val (.int (Int32.ofNat (20 - n))), .val (.int sm), .val (.int so), .val (.int tO), .val (.int wo), .val (.int sb), .val (.int tb), .val (.int cb), .val (.int (Int32.ofNat k)), .val (.int (Int32.ofNat (own_a so n))), .val (.int (Int32.ofNat (own_t tO))), .val r, .val (.int ng), .val (.int sd), .val (.int td), .unset, .unset, .unset, .unset, .unset] [])
                                      refine own_go (fun t_ k_ => XS.iconst X29.here hx rfl (hb hby at_448) k_) ?_
                                      show own_Go p e below _ T29 (mkF m 449 #[.val (.long q1), .second, .val (.int p2), .val (.int p3), .val (.int p4), .val (.int p5), .val (.ref b1), .val (.long mm), .second, .val (.ref b21), .val (.int (Int32.ofNat n)), .val (.int (Int32.ofNat (20 - n))), .val (.int sm), .val (.int so), .val (.int tO), .val (.int wo), .val (.int sb), .val (.int tb), .val (.int cb), .val (.int (Int32.ofNat k)), .val (.int (Int32.ofNat (own_a so n))), .val (.int (Int32.ofNat (own_t tO))), .val r, .val (.int ng), .val (.int sd), .val (.int td), .unset, .unset, .unset, .unset, .unset] [(.int (0 : Int32))])
                                      exact j449 (0 : Int32) T29 _ X29 M29 e29 ⟨fun _ => (fun y => y.2.2.elim h433 h441), fun _ => rfl⟩
                                    · show own_Go p e below _ T29 (mkF m 441 #[.val (.long q1), .second, .val (.int p2), .val (.int p3), .val (.int p4), .val (.int p5), .val (.ref b1), .val (.long mm), .second, .val (.ref b21), .val (.int (Int32.ofNat n)), .val (.int (Int32.ofNat (20 - n))), .val (.int sm), .val (.int so), .val (.int tO), .val (.int wo), .val (.int sb), .val (.int tb), .val (.int cb), .val (.int (Int32.ofNat k)), .val (.int (Int32.ofNat (own_a so n))), .val (.int (Int32.ofNat (own_t tO))), .val r, .val (.int ng), .val (.int sd), .val (.int td), .unset, .unset, .unset, .unset, .unset] [(.int (if own_dig cb then 1 else 0))])
                                      refine own_go (fun t_ k_ => XS.ifNo X29.here hx rfl (hb hby at_441) rfl (XT.i0_eq_f (fun q => h441 (own_ite0.mp q))) k_) ?_
                                      show own_Go p e below _ T29 (mkF m 444 #[.val (.long q1), .second, .val (.int p2), .val (.int p3), .val (.int p4), .val (.int p5), .val (.ref b1), .val (.long mm), .second, .val (.ref b21), .val (.int (Int32.ofNat n)), .val (.int (Int32.ofNat (20 - n))), .val (.int sm), .val (.int so), .val (.int tO), .val (.int wo), .val (.int sb), .val (.int tb), .val (.int cb), .val (.int (Int32.ofNat k)), .val (.int (Int32.ofNat (own_a so n))), .val (.int (Int32.ofNat (own_t tO))), .val r, .val (.int ng), .val (.int sd), .val (.int td), .unset, .unset, .unset, .unset, .unset] [])
                                      refine own_go (fun t_ k_ => XS.iconst X29.here hx rfl (hb hby at_444) k_) ?_
                                      show own_Go p e below _ T29 (mkF m 445 #[.val (.long q1), .second, .val (.int p2), .val (.int p3), .val (.int p4), .val (.int p5), .val (.ref b1), .val (.long mm), .second, .val (.ref b21), .val (.int (Int32.ofNat n)), .val (.int (Int32.ofNat (20 - n))), .val (.int sm), .val (.int so), .val (.int tO), .val (.int wo), .val (.int sb), .val (.int tb), .val (.int cb), .val (.int (Int32.ofNat k)), .val (.int (Int32.ofNat (own_a so n))), .val (.int (Int32.ofNat (own_t tO))), .val r, .val (.int ng), .val (.int sd), .val (.int td), .unset, .unset, .unset, .unset, .unset] [(.int (1 : Int32))])
                                      refine own_go (fun t_ k_ => XS.goto X29.here hx rfl (pc0 := 445) (pc' := 449) rfl (hb hby at_445) (by decide) (by decide) k_) ?_
                                      show own_Go p e below _ T29 (mkF m 449 #[.val (.long q1), .second, .val (.int p2), .val (.int p3), .val (.int p4), .val (.int p5), .val (.ref b1), .val (.long mm), .second, .val (.ref b21), .val (.int (Int32.ofNat n)), .val (.int (Int32.ofNat (20 - n))), .val (.int sm), .val (.int so), .val (.int tO), .val (.int wo), .val (.int sb), .val (.int tb), .val (.int cb), .val (.int (Int32.ofNat k)), .val (.int (Int32.ofNat (own_a so n))), .val (.int (Int32.ofNat (own_t tO))), .val r, .val (.int ng), .val (.int sd), .val (.int td), .unset, .unset, .unset, .unset, .unset] [(.int (1 : Int32))])
                                      exact j449 (1 : Int32) T29 _ X29 M29 e29 ⟨fun z => absurd z (by decide), fun z => absurd (show own_OK tb wo cb so sb tO from ⟨Or.inr (Or.inr (Classical.byContradiction fun y => h418 (hsd.mpr fun x => y x.2))), Or.inr (Classical.byContradiction fun y => h428 (htd.mpr fun x => y x.2)), Or.inr (Classical.not_not.mp h441)⟩) z⟩
                          · show own_Go p e below _ Ti (mkF m 413 #[.val (.long q1), .second, .val (.int p2), .val (.int p3), .val (.int p4), .val (.int p5), .val (.ref b1), .val (.long mm), .second, .val (.ref b21), .val (.int (Int32.ofNat n)), .val (.int (Int32.ofNat (20 - n))), .val (.int sm), .val (.int so), .val (.int tO), .val (.int wo), .val (.int sb), .val (.int tb), .val (.int cb), .val (.int (Int32.ofNat k)), .val (.int (Int32.ofNat (own_a so n))), .val (.int (Int32.ofNat (own_t tO))), .val r, .val (.int ng), .val (.int sd), .val (.int td), .unset, .unset, .unset, .unset, .unset] [(.int ng)])
                            refine own_go (fun t_ k_ => XS.ifYes Xi.here hx rfl (pc0 := 413) (pc' := 421) rfl (hb hby at_413) rfl (XT.i0_ne_t h413) (by decide) (by decide) k_) ?_
                            show own_Go p e below _ Ti (mkF m 421 #[.val (.long q1), .second, .val (.int p2), .val (.int p3), .val (.int p4), .val (.int p5), .val (.ref b1), .val (.long mm), .second, .val (.ref b21), .val (.int (Int32.ofNat n)), .val (.int (Int32.ofNat (20 - n))), .val (.int sm), .val (.int so), .val (.int tO), .val (.int wo), .val (.int sb), .val (.int tb), .val (.int cb), .val (.int (Int32.ofNat k)), .val (.int (Int32.ofNat (own_a so n))), .val (.int (Int32.ofNat (own_t tO))), .val r, .val (.int ng), .val (.int sd), .val (.int td), .unset, .unset, .unset, .unset, .unset] [])
                            refine own_go (fun t_ k_ => XS.iload Xi.here hx rfl (hb hby at_421) rfl k_) ?_
                            show own_Go p e below _ Ti (mkF m 423 #[.val (.long q1), .second, .val (.int p2), .val (.int p3), .val (.int p4), .val (.int p5), .val (.ref b1), .val (.long mm), .second, .val (.ref b21), .val (.int (Int32.ofNat n)), .val (.int (Int32.ofNat (20 - n))), .val (.int sm), .val (.int so), .val (.int tO), .val (.int wo), .val (.int sb), .val (.int tb), .val (.int cb), .val (.int (Int32.ofNat k)), .val (.int (Int32.ofNat (own_a so n))), .val (.int (Int32.ofNat (own_t tO))), .val r, .val (.int ng), .val (.int sd), .val (.int td), .unset, .unset, .unset, .unset, .unset] [(.int tO)])
                            by_cases h423 : tO = 0
                            · show own_Go p e below _ Ti (mkF m 423 #[.val (.long q1), .second, .val (.int p2), .val (.int p3), .val (.int p4), .val (.int p5), .val (.ref b1), .val (.long mm), .second, .val (.ref b21), .val (.int (Int32.ofNat n)), .val (.int (Int32.ofNat (20 - n))), .val (.int sm), .val (.int so), .val (.int tO), .val (.int wo), .val (.int sb), .val (.int tb), .val (.int cb), .val (.int (Int32.ofNat k)), .val (.int (Int32.ofNat (own_a so n))), .val (.int (Int32.ofNat (own_t tO))), .val r, .val (.int ng), .val (.int sd), .val (.int td), .unset, .unset, .unset, .unset, .unset] [(.int tO)])
                              refine own_go (fun t_ k_ => XS.ifYes Xi.here hx rfl (pc0 := 423) (pc' := 431) rfl (hb hby at_423) rfl (XT.i0_eq_t h423) (by decide) (by decide) k_) ?_
                              show own_Go p e below _ Ti (mkF m 431 #[.val (.long q1), .second, .val (.int p2), .val (.int p3), .val (.int p4), .val (.int p5), .val (.ref b1), .val (.long mm), .second, .val (.ref b21), .val (.int (Int32.ofNat n)), .val (.int (Int32.ofNat (20 - n))), .val (.int sm), .val (.int so), .val (.int tO), .val (.int wo), .val (.int sb), .val (.int tb), .val (.int cb), .val (.int (Int32.ofNat k)), .val (.int (Int32.ofNat (own_a so n))), .val (.int (Int32.ofNat (own_t tO))), .val r, .val (.int ng), .val (.int sd), .val (.int td), .unset, .unset, .unset, .unset, .unset] [])
                              refine own_go (fun t_ k_ => XS.iload Xi.here hx rfl (hb hby at_431) rfl k_) ?_
                              show own_Go p e below _ Ti (mkF m 433 #[.val (.long q1), .second, .val (.int p2), .val (.int p3), .val (.int p4), .val (.int p5), .val (.ref b1), .val (.long mm), .second, .val (.ref b21), .val (.int (Int32.ofNat n)), .val (.int (Int32.ofNat (20 - n))), .val (.int sm), .val (.int so), .val (.int tO), .val (.int wo), .val (.int sb), .val (.int tb), .val (.int cb), .val (.int (Int32.ofNat k)), .val (.int (Int32.ofNat (own_a so n))), .val (.int (Int32.ofNat (own_t tO))), .val r, .val (.int ng), .val (.int sd), .val (.int td), .unset, .unset, .unset, .unset, .unset] [(.int wo)])
                              by_cases h433 : wo = 0
                              · show own_Go p e below _ Ti (mkF m 433 #[.val (.long q1), .second, .val (.int p2), .val (.int p3), .val (.int p4), .val (.int p5), .val (.ref b1), .val (.long mm), .second, .val (.ref b21), .val (.int (Int32.ofNat n)), .val (.int (Int32.ofNat (20 - n))), .val (.int sm), .val (.int so), .val (.int tO), .val (.int wo), .val (.int sb), .val (.int tb), .val (.int cb), .val (.int (Int32.ofNat k)), .val (.int (Int32.ofNat (own_a so n))), .val (.int (Int32.ofNat (own_t tO))), .val r, .val (.int ng), .val (.int sd), .val (.int td), .unset, .unset, .unset, .unset, .unset] [(.int wo)])
                                refine own_go (fun t_ k_ => XS.ifYes Xi.here hx rfl (pc0 := 433) (pc' := 444) rfl (hb hby at_433) rfl (XT.i0_eq_t h433) (by decide) (by decide) k_) ?_
                                show own_Go p e below _ Ti (mkF m 444 #[.val (.long q1), .second, .val (.int p2), .val (.int p3), .val (.int p4), .val (.int p5), .val (.ref b1), .val (.long mm), .second, .val (.ref b21), .val (.int (Int32.ofNat n)), .val (.int (Int32.ofNat (20 - n))), .val (.int sm), .val (.int so), .val (.int tO), .val (.int wo), .val (.int sb), .val (.int tb), .val (.int cb), .val (.int (Int32.ofNat k)), .val (.int (Int32.ofNat (own_a so n))), .val (.int (Int32.ofNat (own_t tO))), .val r, .val (.int ng), .val (.int sd), .val (.int td), .unset, .unset, .unset, .unset, .unset] [])
                                refine own_go (fun t_ k_ => XS.iconst Xi.here hx rfl (hb hby at_444) k_) ?_
                                show own_Go p e below _ Ti (mkF m 445 #[.val (.long q1), .second, .val (.int p2), .val (.int p3), .val (.int p4), .val (.int p5), .val (.ref b1), .val (.long mm), .second, .val (.ref b21), .val (.int (Int32.ofNat n)), .val (.int (Int32.ofNat (20 - n))), .val (.int sm), .val (.int so), .val (.int tO), .val (.int wo), .val (.int sb), .val (.int tb), .val (.int cb), .val (.int (Int32.ofNat k)), .val (.int (Int32.ofNat (own_a so n))), .val (.int (Int32.ofNat (own_t tO))), .val r, .val (.int ng), .val (.int sd), .val (.int td), .unset, .unset, .unset, .unset, .unset] [(.int (1 : Int32))])
                                refine own_go (fun t_ k_ => XS.goto Xi.here hx rfl (pc0 := 445) (pc' := 449) rfl (hb hby at_445) (by decide) (by decide) k_) ?_
                                show own_Go p e below _ Ti (mkF m 449 #[.val (.long q1), .second, .val (.int p2), .val (.int p3), .val (.int p4), .val (.int p5), .val (.ref b1), .val (.long mm), .second, .val (.ref b21), .val (.int (Int32.ofNat n)), .val (.int (Int32.ofNat (20 - n))), .val (.int sm), .val (.int so), .val (.int tO), .val (.int wo), .val (.int sb), .val (.int tb), .val (.int cb), .val (.int (Int32.ofNat k)), .val (.int (Int32.ofNat (own_a so n))), .val (.int (Int32.ofNat (own_t tO))), .val r, .val (.int ng), .val (.int sd), .val (.int td), .unset, .unset, .unset, .unset, .unset] [(.int (1 : Int32))])
                                exact j449 (1 : Int32) Ti _ Xi Ni ei ⟨fun z => absurd z (by decide), fun z => absurd (show own_OK tb wo cb so sb tO from ⟨Or.inr (Or.inl (Classical.byContradiction fun y => h413 (hng.mpr fun x => y x.2))), Or.inl h423, Or.inl h433⟩) z⟩
                              · show own_Go p e below _ Ti (mkF m 433 #[.val (.long q1), .second, .val (.int p2), .val (.int p3), .val (.int p4), .val (.int p5), .val (.ref b1), .val (.long mm), .second, .val (.ref b21), .val (.int (Int32.ofNat n)), .val (.int (Int32.ofNat (20 - n))), .val (.int sm), .val (.int so), .val (.int tO), .val (.int wo), .val (.int sb), .val (.int tb), .val (.int cb), .val (.int (Int32.ofNat k)), .val (.int (Int32.ofNat (own_a so n))), .val (.int (Int32.ofNat (own_t tO))), .val r, .val (.int ng), .val (.int sd), .val (.int td), .unset, .unset, .unset, .unset, .unset] [(.int wo)])
                                refine own_go (fun t_ k_ => XS.ifNo Xi.here hx rfl (hb hby at_433) rfl (XT.i0_eq_f h433) k_) ?_
                                show own_Go p e below _ Ti (mkF m 436 #[.val (.long q1), .second, .val (.int p2), .val (.int p3), .val (.int p4), .val (.int p5), .val (.ref b1), .val (.long mm), .second, .val (.ref b21), .val (.int (Int32.ofNat n)), .val (.int (Int32.ofNat (20 - n))), .val (.int sm), .val (.int so), .val (.int tO), .val (.int wo), .val (.int sb), .val (.int tb), .val (.int cb), .val (.int (Int32.ofNat k)), .val (.int (Int32.ofNat (own_a so n))), .val (.int (Int32.ofNat (own_t tO))), .val r, .val (.int ng), .val (.int sd), .val (.int td), .unset, .unset, .unset, .unset, .unset] [])
                                refine own_go (fun t_ k_ => XS.iload Xi.here hx rfl (hb hby at_436) rfl k_) ?_
                                show own_Go p e below _ Ti (mkF m 438 #[.val (.long q1), .second, .val (.int p2), .val (.int p3), .val (.int p4), .val (.int p5), .val (.ref b1), .val (.long mm), .second, .val (.ref b21), .val (.int (Int32.ofNat n)), .val (.int (Int32.ofNat (20 - n))), .val (.int sm), .val (.int so), .val (.int tO), .val (.int wo), .val (.int sb), .val (.int tb), .val (.int cb), .val (.int (Int32.ofNat k)), .val (.int (Int32.ofNat (own_a so n))), .val (.int (Int32.ofNat (own_t tO))), .val r, .val (.int ng), .val (.int sd), .val (.int td), .unset, .unset, .unset, .unset, .unset] [(.int cb)])
                                obtain ⟨_, T30, L30, X30, ⟨rfl, N30, e30⟩, st30⟩ := own_callS Xi hx hZ (y := (⟨"com/example/gridtally/gridtally/core/DecimalsIntegerPinLaw", "isDigit", "(B)Z"⟩ : MethodName)) (argsL := [(.int cb)]) (rest := []) (Ls := #[.val (.long q1), .second, .val (.int p2), .val (.int p3), .val (.int p4), .val (.int p5), .val (.ref b1), .val (.long mm), .second, .val (.ref b21), .val (.int (Int32.ofNat n)), .val (.int (Int32.ofNat (20 - n))), .val (.int sm), .val (.int so), .val (.int tO), .val (.int wo), .val (.int sb), .val (.int tb), .val (.int cb), .val (.int (Int32.ofNat k)), .val (.int (Int32.ofNat (own_a so n))), .val (.int (Int32.ofNat (own_t tO))), .val r, .val (.int ng), .val (.int sd), .val (.int td), .unset, .unset, .unset, .unset, .unset]) hown (own_w hw 58 rfl) (own_w hw 59 rfl) (own_w hw 23 rfl) (own_w hw 60 rfl) (by decide) ei (rmID l Z a0 hw [] cb T24.heap n0 (own_oldge old24)) 0 (by decide) (by decide) (by decide) (by decide) (by rw [hml]; rfl) (lenOf pd_2 rfl) rfl (Nat.le_of_eq rfl) (hb hby at_438)
                                have M30 := Fr.app Ni N30
                                refine own_go st30 ?_
                                show own_Go p e below _ T30 (mkF m 441 #[.val (.long q1), .second, .val (.int p2), .val (.int p3), .val (.int p4), .val (.int p5), .val (.ref b1), .val (.long mm), .second, .val (.ref b21), .val (.int (Int32.ofNat n)), .val (.int (Int32.ofNat (20 - n))), .val (.int sm), .val (.int so), .val (.int tO), .val (.int wo), .val (.int sb), .val (.int tb), .val (.int cb), .val (.int (Int32.ofNat k)), .val (.int (Int32.ofNat (own_a so n))), .val (.int (Int32.ofNat (own_t tO))), .val r, .val (.int ng), .val (.int sd), .val (.int td), .unset, .unset, .unset, .unset, .unset] [(.int (if own_dig cb then 1 else 0))])
                                by_cases h441 : ¬ own_dig cb
                                · show own_Go p e below _ T30 (mkF m 441 #[.val (.long q1), .second, .val (.int p2), .val (.int p3), .val (.int p4), .val (.int p5), .val (.ref b1), .val (.long mm), .second, .val (.ref b21), .val (.int (Int32.ofNat n)), .val (.int (Int32.ofNat (20 - n))), .val (.int sm), .val (.int so), .val (.int tO), .val (.int wo), .val (.int sb), .val (.int tb), .val (.int cb), .val (.int (Int32.ofNat k)), .val (.int (Int32.ofNat (own_a so n))), .val (.int (Int32.ofNat (own_t tO))), .val r, .val (.int ng), .val (.int sd), .val (.int td), .unset, .unset, .unset, .unset, .unset] [(.int (if own_dig cb then 1 else 0))])
                                  refine own_go (fun t_ k_ => XS.ifYes X30.here hx rfl (pc0 := 441) (pc' := 448) rfl (hb hby at_441) rfl (XT.i0_eq_t (own_ite0.mpr h441)) (by decide) (by decide) k_) ?_
                                  show own_Go p e below _ T30 (mkF m 448 #[.val (.long q1), .second, .val (.int p2), .val (.int p3), .val (.int p4), .val (.int p5), .val (.ref b1), .val (.long mm), .second, .val (.ref b21), .val (.int (Int32.ofNat n)), .val (.int (Int32.ofNat (20 - n))), .val (.int sm), .val (.int so), .val (.int tO), .val (.int wo), .val (.int sb), .val (.int tb), .val (.int cb), .val (.int (Int32.ofNat k)), .val (.int (Int32.ofNat (own_a so n))), .val (.int (Int32.ofNat (own_t tO))), .val r, .val (.int ng), .val (.int sd), .val (.int td), .unset, .unset, .unset, .unset, .unset] [])
                                  refine own_go (fun t_ k_ => XS.iconst X30.here hx rfl (hb hby at_448) k_) ?_
                                  show own_Go p e below _ T30 (mkF m 449 #[.val (.long q1), .second, .val (.int p2), .val (.int p3), .val (.int p4), .val (.int p5), .val (.ref b1), .val (.long mm), .second, .val (.ref b21), .val (.int (Int32.ofNat n)), .val (.int (Int32.ofNat (20 - n))), .val (.int sm), .val (.int so), .val (.int tO), .val (.int wo), .val (.int sb), .val (.int tb), .val (.int cb), .val (.int (Int32.ofNat k)), .val (.int (Int32.ofNat (own_a so n))), .val (.int (Int32.ofNat (own_t tO))), .val r, .val (.int ng), .val (.int sd), .val (.int td), .unset, .unset, .unset, .unset, .unset] [(.int (0 : Int32))])
                                  exact j449 (0 : Int32) T30 _ X30 M30 e30 ⟨fun _ => (fun y => y.2.2.elim h433 h441), fun _ => rfl⟩
                                · show own_Go p e below _ T30 (mkF m 441 #[.val (.long q1), .second, .val (.int p2), .val (.int p3), .val (.int p4), .val (.int p5), .val (.ref b1), .val (.long mm), .second, .val (.ref b21), .val (.int (Int32.ofNat n)), .val (.int (Int32.ofNat (20 - n))), .val (.int sm), .val (.int so), .val (.int tO), .val (.int wo), .val (.int sb), .val (.int tb), .val (.int cb), .val (.int (Int32.ofNat k)), .val (.int (Int32.ofNat (own_a so n))), .val (.int (Int32.ofNat (own_t tO))), .val r, .val (.int ng), .val (.int sd), .val (.int td), .unset, .unset, .unset, .unset, .unset] [(.int (if own_dig cb then 1 else 0))])
                                  refine own_go (fun t_ k_ => XS.ifNo X30.here hx rfl (hb hby at_441) rfl (XT.i0_eq_f (fun q => h441 (own_ite0.mp q))) k_) ?_
                                  show own_Go p e below _ T30 (mkF m 444 #[.val (.long q1), .second, .val (.int p2), .val (.int p3), .val (.int p4), .val (.int p5), .val (.ref b1), .val (.long mm), .second, .val (.ref b21), .val (.int (Int32.ofNat n)), .val (.int (Int32.ofNat (20 - n))), .val (.int sm), .val (.int so), .val (.int tO), .val (.int wo), .val (.int sb), .val (.int tb), .val (.int cb), .val (.int (Int32.ofNat k)), .val (.int (Int32.ofNat (own_a so n))), .val (.int (Int32.ofNat (own_t tO))), .val r, .val (.int ng), .val (.int sd), .val (.int td), .unset, .unset, .unset, .unset, .unset] [])
                                  refine own_go (fun t_ k_ => XS.iconst X30.here hx rfl (hb hby at_444) k_) ?_
                                  show own_Go p e below _ T30 (mkF m 445 #[.val (.long q1), .second, .val (.int p2), .val (.int p3), .val (.int p4), .val (.int p5), .val (.ref b1), .val (.long mm), .second, .val (.ref b21), .val (.int (Int32.ofNat n)), .val (.int (Int32.ofNat (20 - n))), .val (.int sm), .val (.int so), .val (.int tO), .val (.int wo), .val (.int sb), .val (.int tb), .val (.int cb), .val (.int (Int32.ofNat k)), .val (.int (Int32.ofNat (own_a so n))), .val (.int (Int32.ofNat (own_t tO))), .val r, .val (.int ng), .val (.int sd), .val (.int td), .unset, .unset, .unset, .unset, .unset] [(.int (1 : Int32))])
                                  refine own_go (fun t_ k_ => XS.goto X30.here hx rfl (pc0 := 445) (pc' := 449) rfl (hb hby at_445) (by decide) (by decide) k_) ?_
                                  show own_Go p e below _ T30 (mkF m 449 #[.val (.long q1), .second, .val (.int p2), .val (.int p3), .val (.int p4), .val (.int p5), .val (.ref b1), .val (.long mm), .second, .val (.ref b21), .val (.int (Int32.ofNat n)), .val (.int (Int32.ofNat (20 - n))), .val (.int sm), .val (.int so), .val (.int tO), .val (.int wo), .val (.int sb), .val (.int tb), .val (.int cb), .val (.int (Int32.ofNat k)), .val (.int (Int32.ofNat (own_a so n))), .val (.int (Int32.ofNat (own_t tO))), .val r, .val (.int ng), .val (.int sd), .val (.int td), .unset, .unset, .unset, .unset, .unset] [(.int (1 : Int32))])
                                  exact j449 (1 : Int32) T30 _ X30 M30 e30 ⟨fun z => absurd z (by decide), fun z => absurd (show own_OK tb wo cb so sb tO from ⟨Or.inr (Or.inl (Classical.byContradiction fun y => h413 (hng.mpr fun x => y x.2))), Or.inl h423, Or.inr (Classical.not_not.mp h441)⟩) z⟩
                            · show own_Go p e below _ Ti (mkF m 423 #[.val (.long q1), .second, .val (.int p2), .val (.int p3), .val (.int p4), .val (.int p5), .val (.ref b1), .val (.long mm), .second, .val (.ref b21), .val (.int (Int32.ofNat n)), .val (.int (Int32.ofNat (20 - n))), .val (.int sm), .val (.int so), .val (.int tO), .val (.int wo), .val (.int sb), .val (.int tb), .val (.int cb), .val (.int (Int32.ofNat k)), .val (.int (Int32.ofNat (own_a so n))), .val (.int (Int32.ofNat (own_t tO))), .val r, .val (.int ng), .val (.int sd), .val (.int td), .unset, .unset, .unset, .unset, .unset] [(.int tO)])
                              refine own_go (fun t_ k_ => XS.ifNo Xi.here hx rfl (hb hby at_423) rfl (XT.i0_eq_f h423) k_) ?_
                              show own_Go p e below _ Ti (mkF m 426 #[.val (.long q1), .second, .val (.int p2), .val (.int p3), .val (.int p4), .val (.int p5), .val (.ref b1), .val (.long mm), .second, .val (.ref b21), .val (.int (Int32.ofNat n)), .val (.int (Int32.ofNat (20 - n))), .val (.int sm), .val (.int so), .val (.int tO), .val (.int wo), .val (.int sb), .val (.int tb), .val (.int cb), .val (.int (Int32.ofNat k)), .val (.int (Int32.ofNat (own_a so n))), .val (.int (Int32.ofNat (own_t tO))), .val r, .val (.int ng), .val (.int sd), .val (.int td), .unset, .unset, .unset, .unset, .unset] [])
                              refine own_go (fun t_ k_ => XS.iload Xi.here hx rfl (hb hby at_426) rfl k_) ?_
                              show own_Go p e below _ Ti (mkF m 428 #[.val (.long q1), .second, .val (.int p2), .val (.int p3), .val (.int p4), .val (.int p5), .val (.ref b1), .val (.long mm), .second, .val (.ref b21), .val (.int (Int32.ofNat n)), .val (.int (Int32.ofNat (20 - n))), .val (.int sm), .val (.int so), .val (.int tO), .val (.int wo), .val (.int sb), .val (.int tb), .val (.int cb), .val (.int (Int32.ofNat k)), .val (.int (Int32.ofNat (own_a so n))), .val (.int (Int32.ofNat (own_t tO))), .val r, .val (.int ng), .val (.int sd), .val (.int td), .unset, .unset, .unset, .unset, .unset] [(.int td)])
                              by_cases h428 : td = 0
                              · show own_Go p e below _ Ti (mkF m 428 #[.val (.long q1), .second, .val (.int p2), .val (.int p3), .val (.int p4), .val (.int p5), .val (.ref b1), .val (.long mm), .second, .val (.ref b21), .val (.int (Int32.ofNat n)), .val (.int (Int32.ofNat (20 - n))), .val (.int sm), .val (.int so), .val (.int tO), .val (.int wo), .val (.int sb), .val (.int tb), .val (.int cb), .val (.int (Int32.ofNat k)), .val (.int (Int32.ofNat (own_a so n))), .val (.int (Int32.ofNat (own_t tO))), .val r, .val (.int ng), .val (.int sd), .val (.int td), .unset, .unset, .unset, .unset, .unset] [(.int td)])
                                refine own_go (fun t_ k_ => XS.ifYes Xi.here hx rfl (pc0 := 428) (pc' := 448) rfl (hb hby at_428) rfl (XT.i0_eq_t h428) (by decide) (by decide) k_) ?_
                                show own_Go p e below _ Ti (mkF m 448 #[.val (.long q1), .second, .val (.int p2), .val (.int p3), .val (.int p4), .val (.int p5), .val (.ref b1), .val (.long mm), .second, .val (.ref b21), .val (.int (Int32.ofNat n)), .val (.int (Int32.ofNat (20 - n))), .val (.int sm), .val (.int so), .val (.int tO), .val (.int wo), .val (.int sb), .val (.int tb), .val (.int cb), .val (.int (Int32.ofNat k)), .val (.int (Int32.ofNat (own_a so n))), .val (.int (Int32.ofNat (own_t tO))), .val r, .val (.int ng), .val (.int sd), .val (.int td), .unset, .unset, .unset, .unset, .unset] [])
                                refine own_go (fun t_ k_ => XS.iconst Xi.here hx rfl (hb hby at_448) k_) ?_
                                show own_Go p e below _ Ti (mkF m 449 #[.val (.long q1), .second, .val (.int p2), .val (.int p3), .val (.int p4), .val (.int p5), .val (.ref b1), .val (.long mm), .second, .val (.ref b21), .val (.int (Int32.ofNat n)), .val (.int (Int32.ofNat (20 - n))), .val (.int sm), .val (.int so), .val (.int tO), .val (.int wo), .val (.int sb), .val (.int tb), .val (.int cb), .val (.int (Int32.ofNat k)), .val (.int (Int32.ofNat (own_a so n))), .val (.int (Int32.ofNat (own_t tO))), .val r, .val (.int ng), .val (.int sd), .val (.int td), .unset, .unset, .unset, .unset, .unset] [(.int (0 : Int32))])
                                exact j449 (0 : Int32) Ti _ Xi Ni ei ⟨fun _ => (fun y => y.2.1.elim h423 (fun x => htd.mp h428 ⟨h423, x⟩)), fun _ => rfl⟩
                              · show own_Go p e below _ Ti (mkF m 428 #[.val (.long q1), .second, .val (.int p2), .val (.int p3), .val (.int p4), .val (.int p5), .val (.ref b1), .val (.long mm), .second, .val (.ref b21), .val (.int (Int32.ofNat n)), .val (.int (Int32.ofNat (20 - n))), .val (.int sm), .val (.int so), .val (.int tO), .val (.int wo), .val (.int sb), .val (.int tb), .val (.int cb), .val (.int (Int32.ofNat k)), .val (.int (Int32.ofNat (own_a so n))), .val (.int (Int32.ofNat (own_t tO))), .val r, .val (.int ng), .val (.int sd), .val (.int td), .unset, .unset, .unset, .unset, .unset] [(.int td)])
                                refine own_go (fun t_ k_ => XS.ifNo Xi.here hx rfl (hb hby at_428) rfl (XT.i0_eq_f h428) k_) ?_
                                show own_Go p e below _ Ti (mkF m 431 #[.val (.long q1), .second, .val (.int p2), .val (.int p3), .val (.int p4), .val (.int p5), .val (.ref b1), .val (.long mm), .second, .val (.ref b21), .val (.int (Int32.ofNat n)), .val (.int (Int32.ofNat (20 - n))), .val (.int sm), .val (.int so), .val (.int tO), .val (.int wo), .val (.int sb), .val (.int tb), .val (.int cb), .val (.int (Int32.ofNat k)), .val (.int (Int32.ofNat (own_a so n))), .val (.int (Int32.ofNat (own_t tO))), .val r, .val (.int ng), .val (.int sd), .val (.int td), .unset, .unset, .unset, .unset, .unset] [])
                                refine own_go (fun t_ k_ => XS.iload Xi.here hx rfl (hb hby at_431) rfl k_) ?_
                                show own_Go p e below _ Ti (mkF m 433 #[.val (.long q1), .second, .val (.int p2), .val (.int p3), .val (.int p4), .val (.int p5), .val (.ref b1), .val (.long mm), .second, .val (.ref b21), .val (.int (Int32.ofNat n)), .val (.int (Int32.ofNat (20 - n))), .val (.int sm), .val (.int so), .val (.int tO), .val (.int wo), .val (.int sb), .val (.int tb), .val (.int cb), .val (.int (Int32.ofNat k)), .val (.int (Int32.ofNat (own_a so n))), .val (.int (Int32.ofNat (own_t tO))), .val r, .val (.int ng), .val (.int sd), .val (.int td), .unset, .unset, .unset, .unset, .unset] [(.int wo)])
                                by_cases h433 : wo = 0
                                · show own_Go p e below _ Ti (mkF m 433 #[.val (.long q1), .second, .val (.int p2), .val (.int p3), .val (.int p4), .val (.int p5), .val (.ref b1), .val (.long mm), .second, .val (.ref b21), .val (.int (Int32.ofNat n)), .val (.int (Int32.ofNat (20 - n))), .val (.int sm), .val (.int so), .val (.int tO), .val (.int wo), .val (.int sb), .val (.int tb), .val (.int cb), .val (.int (Int32.ofNat k)), .val (.int (Int32.ofNat (own_a so n))), .val (.int (Int32.ofNat (own_t tO))), .val r, .val (.int ng), .val (.int sd), .val (.int td), .unset, .unset, .unset, .unset, .unset] [(.int wo)])
                                  refine own_go (fun t_ k_ => XS.ifYes Xi.here hx rfl (pc0 := 433) (pc' := 444) rfl (hb hby at_433) rfl (XT.i0_eq_t h433) (by decide) (by decide) k_) ?_
                                  show own_Go p e below _ Ti (mkF m 444 #[.val (.long q1), .second, .val (.int p2), .val (.int p3), .val (.int p4), .val (.int p5), .val (.ref b1), .val (.long mm), .second, .val (.ref b21), .val (.int (Int32.ofNat n)), .val (.int (Int32.ofNat (20 - n))), .val (.int sm), .val (.int so), .val (.int tO), .val (.int wo), .val (.int sb), .val (.int tb), .val (.int cb), .val (.int (Int32.ofNat k)), .val (.int (Int32.ofNat (own_a so n))), .val (.int (Int32.ofNat (own_t tO))), .val r, .val (.int ng), .val (.int sd), .val (.int td), .unset, .unset, .unset, .unset, .unset] [])
                                  refine own_go (fun t_ k_ => XS.iconst Xi.here hx rfl (hb hby at_444) k_) ?_
                                  show own_Go p e below _ Ti (mkF m 445 #[.val (.long q1), .second, .val (.int p2), .val (.int p3), .val (.int p4), .val (.int p5), .val (.ref b1), .val (.long mm), .second, .val (.ref b21), .val (.int (Int32.ofNat n)), .val (.int (Int32.ofNat (20 - n))), .val (.int sm), .val (.int so), .val (.int tO), .val (.int wo), .val (.int sb), .val (.int tb), .val (.int cb), .val (.int (Int32.ofNat k)), .val (.int (Int32.ofNat (own_a so n))), .val (.int (Int32.ofNat (own_t tO))), .val r, .val (.int ng), .val (.int sd), .val (.int td), .unset, .unset, .unset, .unset, .unset] [(.int (1 : Int32))])
                                  refine own_go (fun t_ k_ => XS.goto Xi.here hx rfl (pc0 := 445) (pc' := 449) rfl (hb hby at_445) (by decide) (by decide) k_) ?_
                                  show own_Go p e below _ Ti (mkF m 449 #[.val (.long q1), .second, .val (.int p2), .val (.int p3), .val (.int p4), .val (.int p5), .val (.ref b1), .val (.long mm), .second, .val (.ref b21), .val (.int (Int32.ofNat n)), .val (.int (Int32.ofNat (20 - n))), .val (.int sm), .val (.int so), .val (.int tO), .val (.int wo), .val (.int sb), .val (.int tb), .val (.int cb), .val (.int (Int32.ofNat k)), .val (.int (Int32.ofNat (own_a so n))), .val (.int (Int32.ofNat (own_t tO))), .val r, .val (.int ng), .val (.int sd), .val (.int td), .unset, .unset, .unset, .unset, .unset] [(.int (1 : Int32))])
                                  exact j449 (1 : Int32) Ti _ Xi Ni ei ⟨fun z => absurd z (by decide), fun z => absurd (show own_OK tb wo cb so sb tO from ⟨Or.inr (Or.inl (Classical.byContradiction fun y => h413 (hng.mpr fun x => y x.2))), Or.inr (Classical.byContradiction fun y => h428 (htd.mpr fun x => y x.2)), Or.inl h433⟩) z⟩
                                · show own_Go p e below _ Ti (mkF m 433 #[.val (.long q1), .second, .val (.int p2), .val (.int p3), .val (.int p4), .val (.int p5), .val (.ref b1), .val (.long mm), .second, .val (.ref b21), .val (.int (Int32.ofNat n)), .val (.int (Int32.ofNat (20 - n))), .val (.int sm), .val (.int so), .val (.int tO), .val (.int wo), .val (.int sb), .val (.int tb), .val (.int cb), .val (.int (Int32.ofNat k)), .val (.int (Int32.ofNat (own_a so n))), .val (.int (Int32.ofNat (own_t tO))), .val r, .val (.int ng), .val (.int sd), .val (.int td), .unset, .unset, .unset, .unset, .unset] [(.int wo)])
                                  refine own_go (fun t_ k_ => XS.ifNo Xi.here hx rfl (hb hby at_433) rfl (XT.i0_eq_f h433) k_) ?_
                                  show own_Go p e below _ Ti (mkF m 436 #[.val (.long q1), .second, .val (.int p2), .val (.int p3), .val (.int p4), .val (.int p5), .val (.ref b1), .val (.long mm), .second, .val (.ref b21), .val (.int (Int32.ofNat n)), .val (.int (Int32.ofNat (20 - n))), .val (.int sm), .val (.int so), .val (.int tO), .val (.int wo), .val (.int sb), .val (.int tb), .val (.int cb), .val (.int (Int32.ofNat k)), .val (.int (Int32.ofNat (own_a so n))), .val (.int (Int32.ofNat (own_t tO))), .val r, .val (.int ng), .val (.int sd), .val (.int td), .unset, .unset, .unset, .unset, .unset] [])
                                  refine own_go (fun t_ k_ => XS.iload Xi.here hx rfl (hb hby at_436) rfl k_) ?_
                                  show own_Go p e below _ Ti (mkF m 438 #[.val (.long q1), .second, .val (.int p2), .val (.int p3), .val (.int p4), .val (.int p5), .val (.ref b1), .val (.long mm), .second, .val (.ref b21), .val (.int (Int32.ofNat n)), .val (.int (Int32.ofNat (20 - n))), .val (.int sm), .val (.int so), .val (.int tO), .val (.int wo), .val (.int sb), .val (.int tb), .val (.int cb), .val (.int (Int32.ofNat k)), .val (.int (Int32.ofNat (own_a so n))), .val (.int (Int32.ofNat (own_t tO))), .val r, .val (.int ng), .val (.int sd), .val (.int td), .unset, .unset, .unset, .unset, .unset] [(.int cb)])
                                  obtain ⟨_, T31, L31, X31, ⟨rfl, N31, e31⟩, st31⟩ := own_callS Xi hx hZ (y := (⟨"com/example/gridtally/gridtally/core/DecimalsIntegerPinLaw", "isDigit", "(B)Z"⟩ : MethodName)) (argsL := [(.int cb)]) (rest := []) (Ls := #[.val (.long q1), .second, .val (.int p2), .val (.int p3), .val (.int p4), .val (.int p5), .val (.ref b1), .val (.long mm), .second, .val (.ref b21), .val (.int (Int32.ofNat n)), .val (.int (Int32.ofNat (20 - n))), .val (.int sm), .val (.int so), .val (.int tO), .val (.int wo), .val (.int sb), .val (.int tb), .val (.int cb), .val (.int (Int32.ofNat k)), .val (.int (Int32.ofNat (own_a so n))), .val (.int (Int32.ofNat (own_t tO))), .val r, .val (.int ng), .val (.int sd), .val (.int td), .unset, .unset, .unset, .unset, .unset]) hown (own_w hw 58 rfl) (own_w hw 59 rfl) (own_w hw 23 rfl) (own_w hw 60 rfl) (by decide) ei (rmID l Z a0 hw [] cb T24.heap n0 (own_oldge old24)) 0 (by decide) (by decide) (by decide) (by decide) (by rw [hml]; rfl) (lenOf pd_2 rfl) rfl (Nat.le_of_eq rfl) (hb hby at_438)
                                  have M31 := Fr.app Ni N31
                                  refine own_go st31 ?_
                                  show own_Go p e below _ T31 (mkF m 441 #[.val (.long q1), .second, .val (.int p2), .val (.int p3), .val (.int p4), .val (.int p5), .val (.ref b1), .val (.long mm), .second, .val (.ref b21), .val (.int (Int32.ofNat n)), .val (.int (Int32.ofNat (20 - n))), .val (.int sm), .val (.int so), .val (.int tO), .val (.int wo), .val (.int sb), .val (.int tb), .val (.int cb), .val (.int (Int32.ofNat k)), .val (.int (Int32.ofNat (own_a so n))), .val (.int (Int32.ofNat (own_t tO))), .val r, .val (.int ng), .val (.int sd), .val (.int td), .unset, .unset, .unset, .unset, .unset] [(.int (if own_dig cb then 1 else 0))])
                                  by_cases h441 : ¬ own_dig cb
                                  · show own_Go p e below _ T31 (mkF m 441 #[.val (.long q1), .second, .val (.int p2), .val (.int p3), .val (.int p4), .val (.int p5), .val (.ref b1), .val (.long mm), .second, .val (.ref b21), .val (.int (Int32.ofNat n)), .val (.int (Int32.ofNat (20 - n))), .val (.int sm), .val (.int so), .val (.int tO), .val (.int wo), .val (.int sb), .val (.int tb), .val (.int cb), .val (.int (Int32.ofNat k)), .val (.int (Int32.ofNat (own_a so n))), .val (.int (Int32.ofNat (own_t tO))), .val r, .val (.int ng), .val (.int sd), .val (.int td), .unset, .unset, .unset, .unset, .unset] [(.int (if own_dig cb then 1 else 0))])
                                    refine own_go (fun t_ k_ => XS.ifYes X31.here hx rfl (pc0 := 441) (pc' := 448) rfl (hb hby at_441) rfl (XT.i0_eq_t (own_ite0.mpr h441)) (by decide) (by decide) k_) ?_
                                    show own_Go p e below _ T31 (mkF m 448 #[.val (.long q1), .second, .val (.int p2), .val (.int p3), .val (.int p4), .val (.int p5), .val (.ref b1), .val (.long mm), .second, .val (.ref b21), .val (.int (Int32.ofNat n)), .val (.int (Int32.ofNat (20 - n))), .val (.int sm), .val (.int so), .val (.int tO), .val (.int wo), .val (.int sb), .val (.int tb), .val (.int cb), .val (.int (Int32.ofNat k)), .val (.int (Int32.ofNat (own_a so n))), .val (.int (Int32.ofNat (own_t tO))), .val r, .val (.int ng), .val (.int sd), .val (.int td), .unset, .unset, .unset, .unset, .unset] [])
                                    refine own_go (fun t_ k_ => XS.iconst X31.here hx rfl (hb hby at_448) k_) ?_
                                    show own_Go p e below _ T31 (mkF m 449 #[.val (.long q1), .second, .val (.int p2), .val (.int p3), .val (.int p4), .val (.int p5), .val (.ref b1), .val (.long mm), .second, .val (.ref b21), .val (.int (Int32.ofNat n)), .val (.int (Int32.ofNat (20 - n))), .val (.int sm), .val (.int so), .val (.int tO), .val (.int wo), .val (.int sb), .val (.int tb), .val (.int cb), .val (.int (Int32.ofNat k)), .val (.int (Int32.ofNat (own_a so n))), .val (.int (Int32.ofNat (own_t tO))), .val r, .val (.int ng), .val (.int sd), .val (.int td), .unset, .unset, .unset, .unset, .unset] [(.int (0 : Int32))])
                                    exact j449 (0 : Int32) T31 _ X31 M31 e31 ⟨fun _ => (fun y => y.2.2.elim h433 h441), fun _ => rfl⟩
                                  · show own_Go p e below _ T31 (mkF m 441 #[.val (.long q1), .second, .val (.int p2), .val (.int p3), .val (.int p4), .val (.int p5), .val (.ref b1), .val (.long mm), .second, .val (.ref b21), .val (.int (Int32.ofNat n)), .val (.int (Int32.ofNat (20 - n))), .val (.int sm), .val (.int so), .val (.int tO), .val (.int wo), .val (.int sb), .val (.int tb), .val (.int cb), .val (.int (Int32.ofNat k)), .val (.int (Int32.ofNat (own_a so n))), .val (.int (Int32.ofNat (own_t tO))), .val r, .val (.int ng), .val (.int sd), .val (.int td), .unset, .unset, .unset, .unset, .unset] [(.int (if own_dig cb then 1 else 0))])
                                    refine own_go (fun t_ k_ => XS.ifNo X31.here hx rfl (hb hby at_441) rfl (XT.i0_eq_f (fun q => h441 (own_ite0.mp q))) k_) ?_
                                    show own_Go p e below _ T31 (mkF m 444 #[.val (.long q1), .second, .val (.int p2), .val (.int p3), .val (.int p4), .val (.int p5), .val (.ref b1), .val (.long mm), .second, .val (.ref b21), .val (.int (Int32.ofNat n)), .val (.int (Int32.ofNat (20 - n))), .val (.int sm), .val (.int so), .val (.int tO), .val (.int wo), .val (.int sb), .val (.int tb), .val (.int cb), .val (.int (Int32.ofNat k)), .val (.int (Int32.ofNat (own_a so n))), .val (.int (Int32.ofNat (own_t tO))), .val r, .val (.int ng), .val (.int sd), .val (.int td), .unset, .unset, .unset, .unset, .unset] [])
                                    refine own_go (fun t_ k_ => XS.iconst X31.here hx rfl (hb hby at_444) k_) ?_
                                    show own_Go p e below _ T31 (mkF m 445 #[.val (.long q1), .second, .val (.int p2), .val (.int p3), .val (.int p4), .val (.int p5), .val (.ref b1), .val (.long mm), .second, .val (.ref b21), .val (.int (Int32.ofNat n)), .val (.int (Int32.ofNat (20 - n))), .val (.int sm), .val (.int so), .val (.int tO), .val (.int wo), .val (.int sb), .val (.int tb), .val (.int cb), .val (.int (Int32.ofNat k)), .val (.int (Int32.ofNat (own_a so n))), .val (.int (Int32.ofNat (own_t tO))), .val r, .val (.int ng), .val (.int sd), .val (.int td), .unset, .unset, .unset, .unset, .unset] [(.int (1 : Int32))])
                                    refine own_go (fun t_ k_ => XS.goto X31.here hx rfl (pc0 := 445) (pc' := 449) rfl (hb hby at_445) (by decide) (by decide) k_) ?_
                                    show own_Go p e below _ T31 (mkF m 449 #[.val (.long q1), .second, .val (.int p2), .val (.int p3), .val (.int p4), .val (.int p5), .val (.ref b1), .val (.long mm), .second, .val (.ref b21), .val (.int (Int32.ofNat n)), .val (.int (Int32.ofNat (20 - n))), .val (.int sm), .val (.int so), .val (.int tO), .val (.int wo), .val (.int sb), .val (.int tb), .val (.int cb), .val (.int (Int32.ofNat k)), .val (.int (Int32.ofNat (own_a so n))), .val (.int (Int32.ofNat (own_t tO))), .val r, .val (.int ng), .val (.int sd), .val (.int td), .unset, .unset, .unset, .unset, .unset] [(.int (1 : Int32))])
                                    exact j449 (1 : Int32) T31 _ X31 M31 e31 ⟨fun z => absurd z (by decide), fun z => absurd (show own_OK tb wo cb so sb tO from ⟨Or.inr (Or.inl (Classical.byContradiction fun y => h413 (hng.mpr fun x => y x.2))), Or.inr (Classical.byContradiction fun y => h428 (htd.mpr fun x => y x.2)), Or.inr (Classical.not_not.mp h441)⟩) z⟩
                      by_cases h388 : tO = 0
                      · show own_Go p e below _ Th (mkF m 388 #[.val (.long q1), .second, .val (.int p2), .val (.int p3), .val (.int p4), .val (.int p5), .val (.ref b1), .val (.long mm), .second, .val (.ref b21), .val (.int (Int32.ofNat n)), .val (.int (Int32.ofNat (20 - n))), .val (.int sm), .val (.int so), .val (.int tO), .val (.int wo), .val (.int sb), .val (.int tb), .val (.int cb), .val (.int (Int32.ofNat k)), .val (.int (Int32.ofNat (own_a so n))), .val (.int (Int32.ofNat (own_t tO))), .val r, .val (.int ng), .val (.int sd), .unset, .unset, .unset, .unset, .unset, .unset] [(.int tO)])
                        refine own_go (fun t_ k_ => XS.ifYes Xh.here hx rfl (pc0 := 388) (pc' := 403) rfl (hb hby at_388) rfl (XT.i0_eq_t h388) (by decide) (by decide) k_) ?_
                        show own_Go p e below _ Th (mkF m 403 #[.val (.long q1), .second, .val (.int p2), .val (.int p3), .val (.int p4), .val (.int p5), .val (.ref b1), .val (.long mm), .second, .val (.ref b21), .val (.int (Int32.ofNat n)), .val (.int (Int32.ofNat (20 - n))), .val (.int sm), .val (.int so), .val (.int tO), .val (.int wo), .val (.int sb), .val (.int tb), .val (.int cb), .val (.int (Int32.ofNat k)), .val (.int (Int32.ofNat (own_a so n))), .val (.int (Int32.ofNat (own_t tO))), .val r, .val (.int ng), .val (.int sd), .unset, .unset, .unset, .unset, .unset, .unset] [])
                        refine own_go (fun t_ k_ => XS.iconst Xh.here hx rfl (hb hby at_403) k_) ?_
                        show own_Go p e below _ Th (mkF m 404 #[.val (.long q1), .second, .val (.int p2), .val (.int p3), .val (.int p4), .val (.int p5), .val (.ref b1), .val (.long mm), .second, .val (.ref b21), .val (.int (Int32.ofNat n)), .val (.int (Int32.ofNat (20 - n))), .val (.int sm), .val (.int so), .val (.int tO), .val (.int wo), .val (.int sb), .val (.int tb), .val (.int cb), .val (.int (Int32.ofNat k)), .val (.int (Int32.ofNat (own_a so n))), .val (.int (Int32.ofNat (own_t tO))), .val r, .val (.int ng), .val (.int sd), .unset, .unset, .unset, .unset, .unset, .unset] [(.int (0 : Int32))])
                        exact j404 (0 : Int32) Th _ Xh Nh eh ⟨fun _ => (fun y => y.1 h388), fun _ => rfl⟩
                      · show own_Go p e below _ Th (mkF m 388 #[.val (.long q1), .second, .val (.int p2), .val (.int p3), .val (.int p4), .val (.int p5), .val (.ref b1), .val (.long mm), .second, .val (.ref b21), .val (.int (Int32.ofNat n)), .val (.int (Int32.ofNat (20 - n))), .val (.int sm), .val (.int so), .val (.int tO), .val (.int wo), .val (.int sb), .val (.int tb), .val (.int cb), .val (.int (Int32.ofNat k)), .val (.int (Int32.ofNat (own_a so n))), .val (.int (Int32.ofNat (own_t tO))), .val r, .val (.int ng), .val (.int sd), .unset, .unset, .unset, .unset, .unset, .unset] [(.int tO)])
                        refine own_go (fun t_ k_ => XS.ifNo Xh.here hx rfl (hb hby at_388) rfl (XT.i0_eq_f h388) k_) ?_
                        show own_Go p e below _ Th (mkF m 391 #[.val (.long q1), .second, .val (.int p2), .val (.int p3), .val (.int p4), .val (.int p5), .val (.ref b1), .val (.long mm), .second, .val (.ref b21), .val (.int (Int32.ofNat n)), .val (.int (Int32.ofNat (20 - n))), .val (.int sm), .val (.int so), .val (.int tO), .val (.int wo), .val (.int sb), .val (.int tb), .val (.int cb), .val (.int (Int32.ofNat k)), .val (.int (Int32.ofNat (own_a so n))), .val (.int (Int32.ofNat (own_t tO))), .val r, .val (.int ng), .val (.int sd), .unset, .unset, .unset, .unset, .unset, .unset] [])
                        refine own_go (fun t_ k_ => XS.iload Xh.here hx rfl (hb hby at_391) rfl k_) ?_
                        show own_Go p e below _ Th (mkF m 393 #[.val (.long q1), .second, .val (.int p2), .val (.int p3), .val (.int p4), .val (.int p5), .val (.ref b1), .val (.long mm), .second, .val (.ref b21), .val (.int (Int32.ofNat n)), .val (.int (Int32.ofNat (20 - n))), .val (.int sm), .val (.int so), .val (.int tO), .val (.int wo), .val (.int sb), .val (.int tb), .val (.int cb), .val (.int (Int32.ofNat k)), .val (.int (Int32.ofNat (own_a so n))), .val (.int (Int32.ofNat (own_t tO))), .val r, .val (.int ng), .val (.int sd), .unset, .unset, .unset, .unset, .unset, .unset] [(.int tb)])
                        obtain ⟨_, T32, L32, X32, ⟨rfl, N32, e32⟩, st32⟩ := own_callS Xh hx hZ (y := (⟨"com/example/gridtally/gridtally/core/DecimalsIntegerPinLaw", "isDigit", "(B)Z"⟩ : MethodName)) (argsL := [(.int tb)]) (rest := []) (Ls := #[.val (.long q1), .second, .val (.int p2), .val (.int p3), .val (.int p4), .val (.int p5), .val (.ref b1), .val (.long mm), .second, .val (.ref b21), .val (.int (Int32.ofNat n)), .val (.int (Int32.ofNat (20 - n))), .val (.int sm), .val (.int so), .val (.int tO), .val (.int wo), .val (.int sb), .val (.int tb), .val (.int cb), .val (.int (Int32.ofNat k)), .val (.int (Int32.ofNat (own_a so n))), .val (.int (Int32.ofNat (own_t tO))), .val r, .val (.int ng), .val (.int sd), .unset, .unset, .unset, .unset, .unset, .unset]) hown (own_w hw 58 rfl) (own_w hw 59 rfl) (own_w hw 23 rfl) (own_w hw 60 rfl) (by decide) eh (rmID l Z a0 hw [] tb T24.heap n0 (own_oldge old24)) 0 (by decide) (by decide) (by decide) (by decide) (by rw [hml]; rfl) (lenOf pd_2 rfl) rfl (Nat.le_of_eq rfl) (hb hby at_393)
                        have M32 := Fr.app Nh N32
                        refine own_go st32 ?_
                        show own_Go p e below _ T32 (mkF m 396 #[.val (.long q1), .second, .val (.int p2), .val (.int p3), .val (.int p4), .val (.int p5), .val (.ref b1), .val (.long mm), .second, .val (.ref b21), .val (.int (Int32.ofNat n)), .val (.int (Int32.ofNat (20 - n))), .val (.int sm), .val (.int so), .val (.int tO), .val (.int wo), .val (.int sb), .val (.int tb), .val (.int cb), .val (.int (Int32.ofNat k)), .val (.int (Int32.ofNat (own_a so n))), .val (.int (Int32.ofNat (own_t tO))), .val r, .val (.int ng), .val (.int sd), .unset, .unset, .unset, .unset, .unset, .unset] [(.int (if own_dig tb then 1 else 0))])
                        by_cases h396 : ¬ own_dig tb
                        · show own_Go p e below _ T32 (mkF m 396 #[.val (.long q1), .second, .val (.int p2), .val (.int p3), .val (.int p4), .val (.int p5), .val (.ref b1), .val (.long mm), .second, .val (.ref b21), .val (.int (Int32.ofNat n)), .val (.int (Int32.ofNat (20 - n))), .val (.int sm), .val (.int so), .val (.int tO), .val (.int wo), .val (.int sb), .val (.int tb), .val (.int cb), .val (.int (Int32.ofNat k)), .val (.int (Int32.ofNat (own_a so n))), .val (.int (Int32.ofNat (own_t tO))), .val r, .val (.int ng), .val (.int sd), .unset, .unset, .unset, .unset, .unset, .unset] [(.int (if own_dig tb then 1 else 0))])
                          refine own_go (fun t_ k_ => XS.ifYes X32.here hx rfl (pc0 := 396) (pc' := 403) rfl (hb hby at_396) rfl (XT.i0_eq_t (own_ite0.mpr h396)) (by decide) (by decide) k_) ?_
                          show own_Go p e below _ T32 (mkF m 403 #[.val (.long q1), .second, .val (.int p2), .val (.int p3), .val (.int p4), .val (.int p5), .val (.ref b1), .val (.long mm), .second, .val (.ref b21), .val (.int (Int32.ofNat n)), .val (.int (Int32.ofNat (20 - n))), .val (.int sm), .val (.int so), .val (.int tO), .val (.int wo), .val (.int sb), .val (.int tb), .val (.int cb), .val (.int (Int32.ofNat k)), .val (.int (Int32.ofNat (own_a so n))), .val (.int (Int32.ofNat (own_t tO))), .val r, .val (.int ng), .val (.int sd), .unset, .unset, .unset, .unset, .unset, .unset] [])
                          refine own_go (fun t_ k_ => XS.iconst X32.here hx rfl (hb hby at_403) k_) ?_
                          show own_Go p e below _ T32 (mkF m 404 #[.val (.long q1), .second, .val (.int p2), .val (.int p3), .val (.int p4), .val (.int p5), .val (.ref b1), .val (.long mm), .second, .val (.ref b21), .val (.int (Int32.ofNat n)), .val (.int (Int32.ofNat (20 - n))), .val (.int sm), .val (.int so), .val (.int tO), .val (.int wo), .val (.int sb), .val (.int tb), .val (.int cb), .val (.int (Int32.ofNat k)), .val (.int (Int32.ofNat (own_a so n))), .val (.int (Int32.ofNat (own_t tO))), .val r, .val (.int ng), .val (.int sd), .unset, .unset, .unset, .unset, .unset, .unset] [(.int (0 : Int32))])
                          exact j404 (0 : Int32) T32 _ X32 M32 e32 ⟨fun _ => (fun y => h396 y.2), fun _ => rfl⟩
                        · show own_Go p e below _ T32 (mkF m 396 #[.val (.long q1), .second, .val (.int p2), .val (.int p3), .val (.int p4), .val (.int p5), .val (.ref b1), .val (.long mm), .second, .val (.ref b21), .val (.int (Int32.ofNat n)), .val (.int (Int32.ofNat (20 - n))), .val (.int sm), .val (.int so), .val (.int tO), .val (.int wo), .val (.int sb), .val (.int tb), .val (.int cb), .val (.int (Int32.ofNat k)), .val (.int (Int32.ofNat (own_a so n))), .val (.int (Int32.ofNat (own_t tO))), .val r, .val (.int ng), .val (.int sd), .unset, .unset, .unset, .unset, .unset, .unset] [(.int (if own_dig tb then 1 else 0))])
                          refine own_go (fun t_ k_ => XS.ifNo X32.here hx rfl (hb hby at_396) rfl (XT.i0_eq_f (fun q => h396 (own_ite0.mp q))) k_) ?_
                          show own_Go p e below _ T32 (mkF m 399 #[.val (.long q1), .second, .val (.int p2), .val (.int p3), .val (.int p4), .val (.int p5), .val (.ref b1), .val (.long mm), .second, .val (.ref b21), .val (.int (Int32.ofNat n)), .val (.int (Int32.ofNat (20 - n))), .val (.int sm), .val (.int so), .val (.int tO), .val (.int wo), .val (.int sb), .val (.int tb), .val (.int cb), .val (.int (Int32.ofNat k)), .val (.int (Int32.ofNat (own_a so n))), .val (.int (Int32.ofNat (own_t tO))), .val r, .val (.int ng), .val (.int sd), .unset, .unset, .unset, .unset, .unset, .unset] [])
                          refine own_go (fun t_ k_ => XS.iconst X32.here hx rfl (hb hby at_399) k_) ?_
                          show own_Go p e below _ T32 (mkF m 400 #[.val (.long q1), .second, .val (.int p2), .val (.int p3), .val (.int p4), .val (.int p5), .val (.ref b1), .val (.long mm), .second, .val (.ref b21), .val (.int (Int32.ofNat n)), .val (.int (Int32.ofNat (20 - n))), .val (.int sm), .val (.int so), .val (.int tO), .val (.int wo), .val (.int sb), .val (.int tb), .val (.int cb), .val (.int (Int32.ofNat k)), .val (.int (Int32.ofNat (own_a so n))), .val (.int (Int32.ofNat (own_t tO))), .val r, .val (.int ng), .val (.int sd), .unset, .unset, .unset, .unset, .unset, .unset] [(.int (1 : Int32))])
                          refine own_go (fun t_ k_ => XS.goto X32.here hx rfl (pc0 := 400) (pc' := 404) rfl (hb hby at_400) (by decide) (by decide) k_) ?_
                          show own_Go p e below _ T32 (mkF m 404 #[.val (.long q1), .second, .val (.int p2), .val (.int p3), .val (.int p4), .val (.int p5), .val (.ref b1), .val (.long mm), .second, .val (.ref b21), .val (.int (Int32.ofNat n)), .val (.int (Int32.ofNat (20 - n))), .val (.int sm), .val (.int so), .val (.int tO), .val (.int wo), .val (.int sb), .val (.int tb), .val (.int cb), .val (.int (Int32.ofNat k)), .val (.int (Int32.ofNat (own_a so n))), .val (.int (Int32.ofNat (own_t tO))), .val r, .val (.int ng), .val (.int sd), .unset, .unset, .unset, .unset, .unset, .unset] [(.int (1 : Int32))])
                          exact j404 (1 : Int32) T32 _ X32 M32 e32 ⟨fun z => absurd z (by decide), fun z => absurd ⟨h388, Classical.not_not.mp h396⟩ z⟩
                    by_cases h368 : so = 0
                    · show own_Go p e below _ Tg (mkF m 368 #[.val (.long q1), .second, .val (.int p2), .val (.int p3), .val (.int p4), .val (.int p5), .val (.ref b1), .val (.long mm), .second, .val (.ref b21), .val (.int (Int32.ofNat n)), .val (.int (Int32.ofNat (20 - n))), .val (.int sm), .val (.int so), .val (.int tO), .val (.int wo), .val (.int sb), .val (.int tb), .val (.int cb), .val (.int (Int32.ofNat k)), .val (.int (Int32.ofNat (own_a so n))), .val (.int (Int32.ofNat (own_t tO))), .val r, .val (.int ng), .unset, .unset, .unset, .unset, .unset, .unset, .unset] [(.int so)])
                      refine own_go (fun t_ k_ => XS.ifYes Xg.here hx rfl (pc0 := 368) (pc' := 383) rfl (hb hby at_368) rfl (XT.i0_eq_t h368) (by decide) (by decide) k_) ?_
                      show own_Go p e below _ Tg (mkF m 383 #[.val (.long q1), .second, .val (.int p2), .val (.int p3), .val (.int p4), .val (.int p5), .val (.ref b1), .val (.long mm), .second, .val (.ref b21), .val (.int (Int32.ofNat n)), .val (.int (Int32.ofNat (20 - n))), .val (.int sm), .val (.int so), .val (.int tO), .val (.int wo), .val (.int sb), .val (.int tb), .val (.int cb), .val (.int (Int32.ofNat k)), .val (.int (Int32.ofNat (own_a so n))), .val (.int (Int32.ofNat (own_t tO))), .val r, .val (.int ng), .unset, .unset, .unset, .unset, .unset, .unset, .unset] [])
                      refine own_go (fun t_ k_ => XS.iconst Xg.here hx rfl (hb hby at_383) k_) ?_
                      show own_Go p e below _ Tg (mkF m 384 #[.val (.long q1), .second, .val (.int p2), .val (.int p3), .val (.int p4), .val (.int p5), .val (.ref b1), .val (.long mm), .second, .val (.ref b21), .val (.int (Int32.ofNat n)), .val (.int (Int32.ofNat (20 - n))), .val (.int sm), .val (.int so), .val (.int tO), .val (.int wo), .val (.int sb), .val (.int tb), .val (.int cb), .val (.int (Int32.ofNat k)), .val (.int (Int32.ofNat (own_a so n))), .val (.int (Int32.ofNat (own_t tO))), .val r, .val (.int ng), .unset, .unset, .unset, .unset, .unset, .unset, .unset] [(.int (0 : Int32))])
                      exact j384 (0 : Int32) Tg _ Xg Ng eg ⟨fun _ => (fun y => y.1 h368), fun _ => rfl⟩
                    · show own_Go p e below _ Tg (mkF m 368 #[.val (.long q1), .second, .val (.int p2), .val (.int p3), .val (.int p4), .val (.int p5), .val (.ref b1), .val (.long mm), .second, .val (.ref b21), .val (.int (Int32.ofNat n)), .val (.int (Int32.ofNat (20 - n))), .val (.int sm), .val (.int so), .val (.int tO), .val (.int wo), .val (.int sb), .val (.int tb), .val (.int cb), .val (.int (Int32.ofNat k)), .val (.int (Int32.ofNat (own_a so n))), .val (.int (Int32.ofNat (own_t tO))), .val r, .val (.int ng), .unset, .unset, .unset, .unset, .unset, .unset, .unset] [(.int so)])
                      refine own_go (fun t_ k_ => XS.ifNo Xg.here hx rfl (hb hby at_368) rfl (XT.i0_eq_f h368) k_) ?_
                      show own_Go p e below _ Tg (mkF m 371 #[.val (.long q1), .second, .val (.int p2), .val (.int p3), .val (.int p4), .val (.int p5), .val (.ref b1), .val (.long mm), .second, .val (.ref b21), .val (.int (Int32.ofNat n)), .val (.int (Int32.ofNat (20 - n))), .val (.int sm), .val (.int so), .val (.int tO), .val (.int wo), .val (.int sb), .val (.int tb), .val (.int cb), .val (.int (Int32.ofNat k)), .val (.int (Int32.ofNat (own_a so n))), .val (.int (Int32.ofNat (own_t tO))), .val r, .val (.int ng), .unset, .unset, .unset, .unset, .unset, .unset, .unset] [])
                      refine own_go (fun t_ k_ => XS.iload Xg.here hx rfl (hb hby at_371) rfl k_) ?_
                      show own_Go p e below _ Tg (mkF m 373 #[.val (.long q1), .second, .val (.int p2), .val (.int p3), .val (.int p4), .val (.int p5), .val (.ref b1), .val (.long mm), .second, .val (.ref b21), .val (.int (Int32.ofNat n)), .val (.int (Int32.ofNat (20 - n))), .val (.int sm), .val (.int so), .val (.int tO), .val (.int wo), .val (.int sb), .val (.int tb), .val (.int cb), .val (.int (Int32.ofNat k)), .val (.int (Int32.ofNat (own_a so n))), .val (.int (Int32.ofNat (own_t tO))), .val r, .val (.int ng), .unset, .unset, .unset, .unset, .unset, .unset, .unset] [(.int sb)])
                      obtain ⟨_, T33, L33, X33, ⟨rfl, N33, e33⟩, st33⟩ := own_callS Xg hx hZ (y := (⟨"com/example/gridtally/gridtally/core/DecimalsIntegerPinLaw", "isDigit", "(B)Z"⟩ : MethodName)) (argsL := [(.int sb)]) (rest := []) (Ls := #[.val (.long q1), .second, .val (.int p2), .val (.int p3), .val (.int p4), .val (.int p5), .val (.ref b1), .val (.long mm), .second, .val (.ref b21), .val (.int (Int32.ofNat n)), .val (.int (Int32.ofNat (20 - n))), .val (.int sm), .val (.int so), .val (.int tO), .val (.int wo), .val (.int sb), .val (.int tb), .val (.int cb), .val (.int (Int32.ofNat k)), .val (.int (Int32.ofNat (own_a so n))), .val (.int (Int32.ofNat (own_t tO))), .val r, .val (.int ng), .unset, .unset, .unset, .unset, .unset, .unset, .unset]) hown (own_w hw 58 rfl) (own_w hw 59 rfl) (own_w hw 23 rfl) (own_w hw 60 rfl) (by decide) eg (rmID l Z a0 hw [] sb T24.heap n0 (own_oldge old24)) 0 (by decide) (by decide) (by decide) (by decide) (by rw [hml]; rfl) (lenOf pd_2 rfl) rfl (Nat.le_of_eq rfl) (hb hby at_373)
                      have M33 := Fr.app Ng N33
                      refine own_go st33 ?_
                      show own_Go p e below _ T33 (mkF m 376 #[.val (.long q1), .second, .val (.int p2), .val (.int p3), .val (.int p4), .val (.int p5), .val (.ref b1), .val (.long mm), .second, .val (.ref b21), .val (.int (Int32.ofNat n)), .val (.int (Int32.ofNat (20 - n))), .val (.int sm), .val (.int so), .val (.int tO), .val (.int wo), .val (.int sb), .val (.int tb), .val (.int cb), .val (.int (Int32.ofNat k)), .val (.int (Int32.ofNat (own_a so n))), .val (.int (Int32.ofNat (own_t tO))), .val r, .val (.int ng), .unset, .unset, .unset, .unset, .unset, .unset, .unset] [(.int (if own_dig sb then 1 else 0))])
                      by_cases h376 : ¬ own_dig sb
                      · show own_Go p e below _ T33 (mkF m 376 #[.val (.long q1), .second, .val (.int p2), .val (.int p3), .val (.int p4), .val (.int p5), .val (.ref b1), .val (.long mm), .second, .val (.ref b21), .val (.int (Int32.ofNat n)), .val (.int (Int32.ofNat (20 - n))), .val (.int sm), .val (.int so), .val (.int tO), .val (.int wo), .val (.int sb), .val (.int tb), .val (.int cb), .val (.int (Int32.ofNat k)), .val (.int (Int32.ofNat (own_a so n))), .val (.int (Int32.ofNat (own_t tO))), .val r, .val (.int ng), .unset, .unset, .unset, .unset, .unset, .unset, .unset] [(.int (if own_dig sb then 1 else 0))])
                        refine own_go (fun t_ k_ => XS.ifYes X33.here hx rfl (pc0 := 376) (pc' := 383) rfl (hb hby at_376) rfl (XT.i0_eq_t (own_ite0.mpr h376)) (by decide) (by decide) k_) ?_
                        show own_Go p e below _ T33 (mkF m 383 #[.val (.long q1), .second, .val (.int p2), .val (.int p3), .val (.int p4), .val (.int p5), .val (.ref b1), .val (.long mm), .second, .val (.ref b21), .val (.int (Int32.ofNat n)), .val (.int (Int32.ofNat (20 - n))), .val (.int sm), .val (.int so), .val (.int tO), .val (.int wo), .val (.int sb), .val (.int tb), .val (.int cb), .val (.int (Int32.ofNat k)), .val (.int (Int32.ofNat (own_a so n))), .val (.int (Int32.ofNat (own_t tO))), .val r, .val (.int ng), .unset, .unset, .unset, .unset, .unset, .unset, .unset] [])
                        refine own_go (fun t_ k_ => XS.iconst X33.here hx rfl (hb hby at_383) k_) ?_
                        show own_Go p e below _ T33 (mkF m 384 #[.val (.long q1), .second, .val (.int p2), .val (.int p3), .val (.int p4), .val (.int p5), .val (.ref b1), .val (.long mm), .second, .val (.ref b21), .val (.int (Int32.ofNat n)), .val (.int (Int32.ofNat (20 - n))), .val (.int sm), .val (.int so), .val (.int tO), .val (.int wo), .val (.int sb), .val (.int tb), .val (.int cb), .val (.int (Int32.ofNat k)), .val (.int (Int32.ofNat (own_a so n))), .val (.int (Int32.ofNat (own_t tO))), .val r, .val (.int ng), .unset, .unset, .unset, .unset, .unset, .unset, .unset] [(.int (0 : Int32))])
                        exact j384 (0 : Int32) T33 _ X33 M33 e33 ⟨fun _ => (fun y => h376 y.2), fun _ => rfl⟩
                      · show own_Go p e below _ T33 (mkF m 376 #[.val (.long q1), .second, .val (.int p2), .val (.int p3), .val (.int p4), .val (.int p5), .val (.ref b1), .val (.long mm), .second, .val (.ref b21), .val (.int (Int32.ofNat n)), .val (.int (Int32.ofNat (20 - n))), .val (.int sm), .val (.int so), .val (.int tO), .val (.int wo), .val (.int sb), .val (.int tb), .val (.int cb), .val (.int (Int32.ofNat k)), .val (.int (Int32.ofNat (own_a so n))), .val (.int (Int32.ofNat (own_t tO))), .val r, .val (.int ng), .unset, .unset, .unset, .unset, .unset, .unset, .unset] [(.int (if own_dig sb then 1 else 0))])
                        refine own_go (fun t_ k_ => XS.ifNo X33.here hx rfl (hb hby at_376) rfl (XT.i0_eq_f (fun q => h376 (own_ite0.mp q))) k_) ?_
                        show own_Go p e below _ T33 (mkF m 379 #[.val (.long q1), .second, .val (.int p2), .val (.int p3), .val (.int p4), .val (.int p5), .val (.ref b1), .val (.long mm), .second, .val (.ref b21), .val (.int (Int32.ofNat n)), .val (.int (Int32.ofNat (20 - n))), .val (.int sm), .val (.int so), .val (.int tO), .val (.int wo), .val (.int sb), .val (.int tb), .val (.int cb), .val (.int (Int32.ofNat k)), .val (.int (Int32.ofNat (own_a so n))), .val (.int (Int32.ofNat (own_t tO))), .val r, .val (.int ng), .unset, .unset, .unset, .unset, .unset, .unset, .unset] [])
                        refine own_go (fun t_ k_ => XS.iconst X33.here hx rfl (hb hby at_379) k_) ?_
                        show own_Go p e below _ T33 (mkF m 380 #[.val (.long q1), .second, .val (.int p2), .val (.int p3), .val (.int p4), .val (.int p5), .val (.ref b1), .val (.long mm), .second, .val (.ref b21), .val (.int (Int32.ofNat n)), .val (.int (Int32.ofNat (20 - n))), .val (.int sm), .val (.int so), .val (.int tO), .val (.int wo), .val (.int sb), .val (.int tb), .val (.int cb), .val (.int (Int32.ofNat k)), .val (.int (Int32.ofNat (own_a so n))), .val (.int (Int32.ofNat (own_t tO))), .val r, .val (.int ng), .unset, .unset, .unset, .unset, .unset, .unset, .unset] [(.int (1 : Int32))])
                        refine own_go (fun t_ k_ => XS.goto X33.here hx rfl (pc0 := 380) (pc' := 384) rfl (hb hby at_380) (by decide) (by decide) k_) ?_
                        show own_Go p e below _ T33 (mkF m 384 #[.val (.long q1), .second, .val (.int p2), .val (.int p3), .val (.int p4), .val (.int p5), .val (.ref b1), .val (.long mm), .second, .val (.ref b21), .val (.int (Int32.ofNat n)), .val (.int (Int32.ofNat (20 - n))), .val (.int sm), .val (.int so), .val (.int tO), .val (.int wo), .val (.int sb), .val (.int tb), .val (.int cb), .val (.int (Int32.ofNat k)), .val (.int (Int32.ofNat (own_a so n))), .val (.int (Int32.ofNat (own_t tO))), .val r, .val (.int ng), .unset, .unset, .unset, .unset, .unset, .unset, .unset] [(.int (1 : Int32))])
                        exact j384 (1 : Int32) T33 _ X33 M33 e33 ⟨fun z => absurd z (by decide), fun z => absurd ⟨h368, Classical.not_not.mp h376⟩ z⟩
                  by_cases h349 : so = 0
                  · show own_Go p e below _ T24 (mkF m 349 #[.val (.long q1), .second, .val (.int p2), .val (.int p3), .val (.int p4), .val (.int p5), .val (.ref b1), .val (.long mm), .second, .val (.ref b21), .val (.int (Int32.ofNat n)), .val (.int (Int32.ofNat (20 - n))), .val (.int sm), .val (.int so), .val (.int tO), .val (.int wo), .val (.int sb), .val (.int tb), .val (.int cb), .val (.int (Int32.ofNat k)), .val (.int (Int32.ofNat (own_a so n))), .val (.int (Int32.ofNat (own_t tO))), .val r, .unset, .unset, .unset, .unset, .unset, .unset, .unset, .unset] [(.int so)])
                    refine own_go (fun t_ k_ => XS.ifYes X24.here hx rfl (pc0 := 349) (pc' := 363) rfl (hb hby at_349) rfl (XT.i0_eq_t h349) (by decide) (by decide) k_) ?_
                    show own_Go p e below _ T24 (mkF m 363 #[.val (.long q1), .second, .val (.int p2), .val (.int p3), .val (.int p4), .val (.int p5), .val (.ref b1), .val (.long mm), .second, .val (.ref b21), .val (.int (Int32.ofNat n)), .val (.int (Int32.ofNat (20 - n))), .val (.int sm), .val (.int so), .val (.int tO), .val (.int wo), .val (.int sb), .val (.int tb), .val (.int cb), .val (.int (Int32.ofNat k)), .val (.int (Int32.ofNat (own_a so n))), .val (.int (Int32.ofNat (own_t tO))), .val r, .unset, .unset, .unset, .unset, .unset, .unset, .unset, .unset] [])
                    refine own_go (fun t_ k_ => XS.iconst X24.here hx rfl (hb hby at_363) k_) ?_
                    show own_Go p e below _ T24 (mkF m 364 #[.val (.long q1), .second, .val (.int p2), .val (.int p3), .val (.int p4), .val (.int p5), .val (.ref b1), .val (.long mm), .second, .val (.ref b21), .val (.int (Int32.ofNat n)), .val (.int (Int32.ofNat (20 - n))), .val (.int sm), .val (.int so), .val (.int tO), .val (.int wo), .val (.int sb), .val (.int tb), .val (.int cb), .val (.int (Int32.ofNat k)), .val (.int (Int32.ofNat (own_a so n))), .val (.int (Int32.ofNat (own_t tO))), .val r, .unset, .unset, .unset, .unset, .unset, .unset, .unset, .unset] [(.int (0 : Int32))])
                    exact j364 (0 : Int32) T24 _ X24 M24 rfl ⟨fun _ => (fun y => y.1 h349), fun _ => rfl⟩
                  · show own_Go p e below _ T24 (mkF m 349 #[.val (.long q1), .second, .val (.int p2), .val (.int p3), .val (.int p4), .val (.int p5), .val (.ref b1), .val (.long mm), .second, .val (.ref b21), .val (.int (Int32.ofNat n)), .val (.int (Int32.ofNat (20 - n))), .val (.int sm), .val (.int so), .val (.int tO), .val (.int wo), .val (.int sb), .val (.int tb), .val (.int cb), .val (.int (Int32.ofNat k)), .val (.int (Int32.ofNat (own_a so n))), .val (.int (Int32.ofNat (own_t tO))), .val r, .unset, .unset, .unset, .unset, .unset, .unset, .unset, .unset] [(.int so)])
                    refine own_go (fun t_ k_ => XS.ifNo X24.here hx rfl (hb hby at_349) rfl (XT.i0_eq_f h349) k_) ?_
                    show own_Go p e below _ T24 (mkF m 352 #[.val (.long q1), .second, .val (.int p2), .val (.int p3), .val (.int p4), .val (.int p5), .val (.ref b1), .val (.long mm), .second, .val (.ref b21), .val (.int (Int32.ofNat n)), .val (.int (Int32.ofNat (20 - n))), .val (.int sm), .val (.int so), .val (.int tO), .val (.int wo), .val (.int sb), .val (.int tb), .val (.int cb), .val (.int (Int32.ofNat k)), .val (.int (Int32.ofNat (own_a so n))), .val (.int (Int32.ofNat (own_t tO))), .val r, .unset, .unset, .unset, .unset, .unset, .unset, .unset, .unset] [])
                    refine own_go (fun t_ k_ => XS.iload X24.here hx rfl (hb hby at_352) rfl k_) ?_
                    show own_Go p e below _ T24 (mkF m 354 #[.val (.long q1), .second, .val (.int p2), .val (.int p3), .val (.int p4), .val (.int p5), .val (.ref b1), .val (.long mm), .second, .val (.ref b21), .val (.int (Int32.ofNat n)), .val (.int (Int32.ofNat (20 - n))), .val (.int sm), .val (.int so), .val (.int tO), .val (.int wo), .val (.int sb), .val (.int tb), .val (.int cb), .val (.int (Int32.ofNat k)), .val (.int (Int32.ofNat (own_a so n))), .val (.int (Int32.ofNat (own_t tO))), .val r, .unset, .unset, .unset, .unset, .unset, .unset, .unset, .unset] [(.int sb)])
                    refine own_go (fun t_ k_ => XS.bipush X24.here hx rfl (hb hby at_354) k_) ?_
                    show own_Go p e below _ T24 (mkF m 356 #[.val (.long q1), .second, .val (.int p2), .val (.int p3), .val (.int p4), .val (.int p5), .val (.ref b1), .val (.long mm), .second, .val (.ref b21), .val (.int (Int32.ofNat n)), .val (.int (Int32.ofNat (20 - n))), .val (.int sm), .val (.int so), .val (.int tO), .val (.int wo), .val (.int sb), .val (.int tb), .val (.int cb), .val (.int (Int32.ofNat k)), .val (.int (Int32.ofNat (own_a so n))), .val (.int (Int32.ofNat (own_t tO))), .val r, .unset, .unset, .unset, .unset, .unset, .unset, .unset, .unset] [(.int (45 : Int32)), (.int sb)])
                    by_cases h356 : sb = (45 : Int32)
                    · show own_Go p e below _ T24 (mkF m 356 #[.val (.long q1), .second, .val (.int p2), .val (.int p3), .val (.int p4), .val (.int p5), .val (.ref b1), .val (.long mm), .second, .val (.ref b21), .val (.int (Int32.ofNat n)), .val (.int (Int32.ofNat (20 - n))), .val (.int sm), .val (.int so), .val (.int tO), .val (.int wo), .val (.int sb), .val (.int tb), .val (.int cb), .val (.int (Int32.ofNat k)), .val (.int (Int32.ofNat (own_a so n))), .val (.int (Int32.ofNat (own_t tO))), .val r, .unset, .unset, .unset, .unset, .unset, .unset, .unset, .unset] [(.int (45 : Int32)), (.int sb)])
                      refine own_go (fun t_ k_ => XS.icmpNo X24.here hx rfl (hb hby at_356) rfl (XT.ii_ne_f h356) k_) ?_
                      show own_Go p e below _ T24 (mkF m 359 #[.val (.long q1), .second, .val (.int p2), .val (.int p3), .val (.int p4), .val (.int p5), .val (.ref b1), .val (.long mm), .second, .val (.ref b21), .val (.int (Int32.ofNat n)), .val (.int (Int32.ofNat (20 - n))), .val (.int sm), .val (.int so), .val (.int tO), .val (.int wo), .val (.int sb), .val (.int tb), .val (.int cb), .val (.int (Int32.ofNat k)), .val (.int (Int32.ofNat (own_a so n))), .val (.int (Int32.ofNat (own_t tO))), .val r, .unset, .unset, .unset, .unset, .unset, .unset, .unset, .unset] [])
                      refine own_go (fun t_ k_ => XS.iconst X24.here hx rfl (hb hby at_359) k_) ?_
                      show own_Go p e below _ T24 (mkF m 360 #[.val (.long q1), .second, .val (.int p2), .val (.int p3), .val (.int p4), .val (.int p5), .val (.ref b1), .val (.long mm), .second, .val (.ref b21), .val (.int (Int32.ofNat n)), .val (.int (Int32.ofNat (20 - n))), .val (.int sm), .val (.int so), .val (.int tO), .val (.int wo), .val (.int sb), .val (.int tb), .val (.int cb), .val (.int (Int32.ofNat k)), .val (.int (Int32.ofNat (own_a so n))), .val (.int (Int32.ofNat (own_t tO))), .val r, .unset, .unset, .unset, .unset, .unset, .unset, .unset, .unset] [(.int (1 : Int32))])
                      refine own_go (fun t_ k_ => XS.goto X24.here hx rfl (pc0 := 360) (pc' := 364) rfl (hb hby at_360) (by decide) (by decide) k_) ?_
                      show own_Go p e below _ T24 (mkF m 364 #[.val (.long q1), .second, .val (.int p2), .val (.int p3), .val (.int p4), .val (.int p5), .val (.ref b1), .val (.long mm), .second, .val (.ref b21), .val (.int (Int32.ofNat n)), .val (.int (Int32.ofNat (20 - n))), .val (.int sm), .val (.int so), .val (.int tO), .val (.int wo), .val (.int sb), .val (.int tb), .val (.int cb), .val (.int (Int32.ofNat k)), .val (.int (Int32.ofNat (own_a so n))), .val (.int (Int32.ofNat (own_t tO))), .val r, .unset, .unset, .unset, .unset, .unset, .unset, .unset, .unset] [(.int (1 : Int32))])
                      exact j364 (1 : Int32) T24 _ X24 M24 rfl ⟨fun z => absurd z (by decide), fun z => absurd ⟨h349, h356⟩ z⟩
                    · show own_Go p e below _ T24 (mkF m 356 #[.val (.long q1), .second, .val (.int p2), .val (.int p3), .val (.int p4), .val (.int p5), .val (.ref b1), .val (.long mm), .second, .val (.ref b21), .val (.int (Int32.ofNat n)), .val (.int (Int32.ofNat (20 - n))), .val (.int sm), .val (.int so), .val (.int tO), .val (.int wo), .val (.int sb), .val (.int tb), .val (.int cb), .val (.int (Int32.ofNat k)), .val (.int (Int32.ofNat (own_a so n))), .val (.int (Int32.ofNat (own_t tO))), .val r, .unset, .unset, .unset, .unset, .unset, .unset, .unset, .unset] [(.int (45 : Int32)), (.int sb)])
                      refine own_go (fun t_ k_ => XS.icmpYes X24.here hx rfl (pc0 := 356) (pc' := 363) rfl (hb hby at_356) rfl (XT.ii_ne_t h356) (by decide) (by decide) k_) ?_
                      show own_Go p e below _ T24 (mkF m 363 #[.val (.long q1), .second, .val (.int p2), .val (.int p3), .val (.int p4), .val (.int p5), .val (.ref b1), .val (.long mm), .second, .val (.ref b21), .val (.int (Int32.ofNat n)), .val (.int (Int32.ofNat (20 - n))), .val (.int sm), .val (.int so), .val (.int tO), .val (.int wo), .val (.int sb), .val (.int tb), .val (.int cb), .val (.int (Int32.ofNat k)), .val (.int (Int32.ofNat (own_a so n))), .val (.int (Int32.ofNat (own_t tO))), .val r, .unset, .unset, .unset, .unset, .unset, .unset, .unset, .unset] [])
                      refine own_go (fun t_ k_ => XS.iconst X24.here hx rfl (hb hby at_363) k_) ?_
                      show own_Go p e below _ T24 (mkF m 364 #[.val (.long q1), .second, .val (.int p2), .val (.int p3), .val (.int p4), .val (.int p5), .val (.ref b1), .val (.long mm), .second, .val (.ref b21), .val (.int (Int32.ofNat n)), .val (.int (Int32.ofNat (20 - n))), .val (.int sm), .val (.int so), .val (.int tO), .val (.int wo), .val (.int sb), .val (.int tb), .val (.int cb), .val (.int (Int32.ofNat k)), .val (.int (Int32.ofNat (own_a so n))), .val (.int (Int32.ofNat (own_t tO))), .val r, .unset, .unset, .unset, .unset, .unset, .unset, .unset, .unset] [(.int (0 : Int32))])
                      exact j364 (0 : Int32) T24 _ X24 M24 rfl ⟨fun _ => (fun y => h356 y.2), fun _ => rfl⟩
                by_cases h324 : tO = 0
                · show own_Go p e below _ Te (mkF m 324 #[.val (.long q1), .second, .val (.int p2), .val (.int p3), .val (.int p4), .val (.int p5), .val (.ref b1), .val (.long mm), .second, .val (.ref b21), .val (.int (Int32.ofNat n)), .val (.int (Int32.ofNat (20 - n))), .val (.int sm), .val (.int so), .val (.int tO), .val (.int wo), .val (.int sb), .val (.int tb), .val (.int cb), .val (.int (Int32.ofNat k)), .val (.int (Int32.ofNat fr)), .unset, .unset, .unset, .unset, .unset, .unset, .unset, .unset, .unset, .unset] [(.int tO)])
                  refine own_go (fun t_ k_ => XS.ifYes Xe.here hx rfl (pc0 := 324) (pc' := 332) rfl (hb hby at_324) rfl (XT.i0_eq_t h324) (by decide) (by decide) k_) ?_
                  show own_Go p e below _ Te (mkF m 332 #[.val (.long q1), .second, .val (.int p2), .val (.int p3), .val (.int p4), .val (.int p5), .val (.ref b1), .val (.long mm), .second, .val (.ref b21), .val (.int (Int32.ofNat n)), .val (.int (Int32.ofNat (20 - n))), .val (.int sm), .val (.int so), .val (.int tO), .val (.int wo), .val (.int sb), .val (.int tb), .val (.int cb), .val (.int (Int32.ofNat k)), .val (.int (Int32.ofNat fr)), .unset, .unset, .unset, .unset, .unset, .unset, .unset, .unset, .unset, .unset] [])
                  refine own_go (fun t_ k_ => XS.bipush Xe.here hx rfl (hb hby at_332) k_) ?_
                  show own_Go p e below _ Te (mkF m 334 #[.val (.long q1), .second, .val (.int p2), .val (.int p3), .val (.int p4), .val (.int p5), .val (.ref b1), .val (.long mm), .second, .val (.ref b21), .val (.int (Int32.ofNat n)), .val (.int (Int32.ofNat (20 - n))), .val (.int sm), .val (.int so), .val (.int tO), .val (.int wo), .val (.int sb), .val (.int tb), .val (.int cb), .val (.int (Int32.ofNat k)), .val (.int (Int32.ofNat fr)), .unset, .unset, .unset, .unset, .unset, .unset, .unset, .unset, .unset, .unset] [(.int (20 : Int32))])
                  exact j334 20 Te _ Xe Ne ee (by unfold own_t; rw [if_neg (fun z => z h324)])
                · show own_Go p e below _ Te (mkF m 324 #[.val (.long q1), .second, .val (.int p2), .val (.int p3), .val (.int p4), .val (.int p5), .val (.ref b1), .val (.long mm), .second, .val (.ref b21), .val (.int (Int32.ofNat n)), .val (.int (Int32.ofNat (20 - n))), .val (.int sm), .val (.int so), .val (.int tO), .val (.int wo), .val (.int sb), .val (.int tb), .val (.int cb), .val (.int (Int32.ofNat k)), .val (.int (Int32.ofNat fr)), .unset, .unset, .unset, .unset, .unset, .unset, .unset, .unset, .unset, .unset] [(.int tO)])
                  refine own_go (fun t_ k_ => XS.ifNo Xe.here hx rfl (hb hby at_324) rfl (XT.i0_eq_f h324) k_) ?_
                  show own_Go p e below _ Te (mkF m 327 #[.val (.long q1), .second, .val (.int p2), .val (.int p3), .val (.int p4), .val (.int p5), .val (.ref b1), .val (.long mm), .second, .val (.ref b21), .val (.int (Int32.ofNat n)), .val (.int (Int32.ofNat (20 - n))), .val (.int sm), .val (.int so), .val (.int tO), .val (.int wo), .val (.int sb), .val (.int tb), .val (.int cb), .val (.int (Int32.ofNat k)), .val (.int (Int32.ofNat fr)), .unset, .unset, .unset, .unset, .unset, .unset, .unset, .unset, .unset, .unset] [])
                  refine own_go (fun t_ k_ => XS.bipush Xe.here hx rfl (hb hby at_327) k_) ?_
                  show own_Go p e below _ Te (mkF m 329 #[.val (.long q1), .second, .val (.int p2), .val (.int p3), .val (.int p4), .val (.int p5), .val (.ref b1), .val (.long mm), .second, .val (.ref b21), .val (.int (Int32.ofNat n)), .val (.int (Int32.ofNat (20 - n))), .val (.int sm), .val (.int so), .val (.int tO), .val (.int wo), .val (.int sb), .val (.int tb), .val (.int cb), .val (.int (Int32.ofNat k)), .val (.int (Int32.ofNat fr)), .unset, .unset, .unset, .unset, .unset, .unset, .unset, .unset, .unset, .unset] [(.int (21 : Int32))])
                  refine own_go (fun t_ k_ => XS.goto Xe.here hx rfl (pc0 := 329) (pc' := 334) rfl (hb hby at_329) (by decide) (by decide) k_) ?_
                  show own_Go p e below _ Te (mkF m 334 #[.val (.long q1), .second, .val (.int p2), .val (.int p3), .val (.int p4), .val (.int p5), .val (.ref b1), .val (.long mm), .second, .val (.ref b21), .val (.int (Int32.ofNat n)), .val (.int (Int32.ofNat (20 - n))), .val (.int sm), .val (.int so), .val (.int tO), .val (.int wo), .val (.int sb), .val (.int tb), .val (.int cb), .val (.int (Int32.ofNat k)), .val (.int (Int32.ofNat fr)), .unset, .unset, .unset, .unset, .unset, .unset, .unset, .unset, .unset, .unset] [(.int (21 : Int32))])
                  exact j334 21 Te _ Xe Ne ee (by unfold own_t; rw [if_pos h324])
              by_cases h304 : so = 0
              · show own_Go p e below _ Td (mkF m 304 #[.val (.long q1), .second, .val (.int p2), .val (.int p3), .val (.int p4), .val (.int p5), .val (.ref b1), .val (.long mm), .second, .val (.ref b21), .val (.int (Int32.ofNat n)), .val (.int (Int32.ofNat (20 - n))), .val (.int sm), .val (.int so), .val (.int tO), .val (.int wo), .val (.int sb), .val (.int tb), .val (.int cb), .val (.int (Int32.ofNat k)), .val (.int (Int32.ofNat (20 - n))), .unset, .unset, .unset, .unset, .unset, .unset, .unset, .unset, .unset, .unset] [(.int so)])
                refine own_go (fun t_ k_ => XS.ifYes Xd.here hx rfl (pc0 := 304) (pc' := 322) rfl (hb hby at_304) rfl (XT.i0_eq_t h304) (by decide) (by decide) k_) ?_
                show own_Go p e below _ Td (mkF m 322 #[.val (.long q1), .second, .val (.int p2), .val (.int p3), .val (.int p4), .val (.int p5), .val (.ref b1), .val (.long mm), .second, .val (.ref b21), .val (.int (Int32.ofNat n)), .val (.int (Int32.ofNat (20 - n))), .val (.int sm), .val (.int so), .val (.int tO), .val (.int wo), .val (.int sb), .val (.int tb), .val (.int cb), .val (.int (Int32.ofNat k)), .val (.int (Int32.ofNat (20 - n))), .unset, .unset, .unset, .unset, .unset, .unset, .unset, .unset, .unset, .unset] [])
                exact j322 hh ((20 - n)) Td _ Xd Nd ed (by unfold own_a; rw [if_neg (fun z => z h304)]) oldc (Vbc.cong (own_f2N h304)) Vtc
              · show own_Go p e below _ Td (mkF m 304 #[.val (.long q1), .second, .val (.int p2), .val (.int p3), .val (.int p4), .val (.int p5), .val (.ref b1), .val (.long mm), .second, .val (.ref b21), .val (.int (Int32.ofNat n)), .val (.int (Int32.ofNat (20 - n))), .val (.int sm), .val (.int so), .val (.int tO), .val (.int wo), .val (.int sb), .val (.int tb), .val (.int cb), .val (.int (Int32.ofNat k)), .val (.int (Int32.ofNat (20 - n))), .unset, .unset, .unset, .unset, .unset, .unset, .unset, .unset, .unset, .unset] [(.int so)])
                refine own_go (fun t_ k_ => XS.ifNo Xd.here hx rfl (hb hby at_304) rfl (XT.i0_eq_f h304) k_) ?_
                show own_Go p e below _ Td (mkF m 307 #[.val (.long q1), .second, .val (.int p2), .val (.int p3), .val (.int p4), .val (.int p5), .val (.ref b1), .val (.long mm), .second, .val (.ref b21), .val (.int (Int32.ofNat n)), .val (.int (Int32.ofNat (20 - n))), .val (.int sm), .val (.int so), .val (.int tO), .val (.int wo), .val (.int sb), .val (.int tb), .val (.int cb), .val (.int (Int32.ofNat k)), .val (.int (Int32.ofNat (20 - n))), .unset, .unset, .unset, .unset, .unset, .unset, .unset, .unset, .unset, .unset] [])
                refine own_go (fun t_ k_ => XS.aload Xd.here hx rfl (hb hby at_307) rfl rfl k_) ?_
                show own_Go p e below _ Td (mkF m 309 #[.val (.long q1), .second, .val (.int p2), .val (.int p3), .val (.int p4), .val (.int p5), .val (.ref b1), .val (.long mm), .second, .val (.ref b21), .val (.int (Int32.ofNat n)), .val (.int (Int32.ofNat (20 - n))), .val (.int sm), .val (.int so), .val (.int tO), .val (.int wo), .val (.int sb), .val (.int tb), .val (.int cb), .val (.int (Int32.ofNat k)), .val (.int (Int32.ofNat (20 - n))), .unset, .unset, .unset, .unset, .unset, .unset, .unset, .unset, .unset, .unset] [(.ref b21)])
                refine own_go (fun t_ k_ => XS.iload Xd.here hx rfl (hb hby at_309) rfl k_) ?_
                show own_Go p e below _ Td (mkF m 311 #[.val (.long q1), .second, .val (.int p2), .val (.int p3), .val (.int p4), .val (.int p5), .val (.ref b1), .val (.long mm), .second, .val (.ref b21), .val (.int (Int32.ofNat n)), .val (.int (Int32.ofNat (20 - n))), .val (.int sm), .val (.int so), .val (.int tO), .val (.int wo), .val (.int sb), .val (.int tb), .val (.int cb), .val (.int (Int32.ofNat k)), .val (.int (Int32.ofNat (20 - n))), .unset, .unset, .unset, .unset, .unset, .unset, .unset, .unset, .unset, .unset] [(.int (Int32.ofNat (20 - n))), (.ref b21)])
                refine own_go (fun t_ k_ => XS.iconst Xd.here hx rfl (hb hby at_311) k_) ?_
                show own_Go p e below _ Td (mkF m 312 #[.val (.long q1), .second, .val (.int p2), .val (.int p3), .val (.int p4), .val (.int p5), .val (.ref b1), .val (.long mm), .second, .val (.ref b21), .val (.int (Int32.ofNat n)), .val (.int (Int32.ofNat (20 - n))), .val (.int sm), .val (.int so), .val (.int tO), .val (.int wo), .val (.int sb), .val (.int tb), .val (.int cb), .val (.int (Int32.ofNat k)), .val (.int (Int32.ofNat (20 - n))), .unset, .unset, .unset, .unset, .unset, .unset, .unset, .unset, .unset, .unset] [(.int (1 : Int32)), (.int (Int32.ofNat (20 - n))), (.ref b21)])
                refine own_go (fun t_ k_ => XS.isub Xd.here hx rfl (hb hby at_312) rfl k_) ?_
                show own_Go p e below _ Td (mkF m 313 #[.val (.long q1), .second, .val (.int p2), .val (.int p3), .val (.int p4), .val (.int p5), .val (.ref b1), .val (.long mm), .second, .val (.ref b21), .val (.int (Int32.ofNat n)), .val (.int (Int32.ofNat (20 - n))), .val (.int sm), .val (.int so), .val (.int tO), .val (.int wo), .val (.int sb), .val (.int tb), .val (.int cb), .val (.int (Int32.ofNat k)), .val (.int (Int32.ofNat (20 - n))), .unset, .unset, .unset, .unset, .unset, .unset, .unset, .unset, .unset, .unset] [(.int ((Int32.ofNat (20 - n)) - (1 : Int32))), (.ref b21)])
                rw [show ((Int32.ofNat (20 - n)) - (1 : Int32)) = (Int32.ofNat ((20 - n) - 1)) from own_oSub (a := (20 - n)) (b := 1) (by omega) (by omega)]
                show own_Go p e below _ Td (mkF m 313 #[.val (.long q1), .second, .val (.int p2), .val (.int p3), .val (.int p4), .val (.int p5), .val (.ref b1), .val (.long mm), .second, .val (.ref b21), .val (.int (Int32.ofNat n)), .val (.int (Int32.ofNat (20 - n))), .val (.int sm), .val (.int so), .val (.int tO), .val (.int wo), .val (.int sb), .val (.int tb), .val (.int cb), .val (.int (Int32.ofNat k)), .val (.int (Int32.ofNat (20 - n))), .unset, .unset, .unset, .unset, .unset, .unset, .unset, .unset, .unset, .unset] [(.int (Int32.ofNat ((20 - n) - 1))), (.ref b21)])
                refine own_go (fun t_ k_ => XS.iload Xd.here hx rfl (hb hby at_313) rfl k_) ?_
                show own_Go p e below _ Td (mkF m 315 #[.val (.long q1), .second, .val (.int p2), .val (.int p3), .val (.int p4), .val (.int p5), .val (.ref b1), .val (.long mm), .second, .val (.ref b21), .val (.int (Int32.ofNat n)), .val (.int (Int32.ofNat (20 - n))), .val (.int sm), .val (.int so), .val (.int tO), .val (.int wo), .val (.int sb), .val (.int tb), .val (.int cb), .val (.int (Int32.ofNat k)), .val (.int (Int32.ofNat (20 - n))), .unset, .unset, .unset, .unset, .unset, .unset, .unset, .unset, .unset, .unset] [(.int sb), (.int (Int32.ofNat ((20 - n) - 1))), (.ref b21)])
                obtain ⟨T34, h34, L34, X34, N34, e34, ⟨sl34, v34, W34⟩, V34, st34⟩ := own_stBA Xd hx hZ ed Vbc (by decide) ((20 - n) - 1) (by omega) (y := sb) hsb (f' := (own_f2 mm tb wo cb so sb k n)) (own_f2S h304 hn) Nd ge_b21 (Ls := #[.val (.long q1), .second, .val (.int p2), .val (.int p3), .val (.int p4), .val (.int p5), .val (.ref b1), .val (.long mm), .second, .val (.ref b21), .val (.int (Int32.ofNat n)), .val (.int (Int32.ofNat (20 - n))), .val (.int sm), .val (.int so), .val (.int tO), .val (.int wo), .val (.int sb), .val (.int tb), .val (.int cb), .val (.int (Int32.ofNat k)), .val (.int (Int32.ofNat (20 - n))), .unset, .unset, .unset, .unset, .unset, .unset, .unset, .unset, .unset, .unset]) (rest := []) (hb hby at_315)
                have old34 := oldc.wr W34 ge_b21
                refine own_go st34 ?_
                show own_Go p e below _ T34 (mkF m 316 #[.val (.long q1), .second, .val (.int p2), .val (.int p3), .val (.int p4), .val (.int p5), .val (.ref b1), .val (.long mm), .second, .val (.ref b21), .val (.int (Int32.ofNat n)), .val (.int (Int32.ofNat (20 - n))), .val (.int sm), .val (.int so), .val (.int tO), .val (.int wo), .val (.int sb), .val (.int tb), .val (.int cb), .val (.int (Int32.ofNat k)), .val (.int (Int32.ofNat (20 - n))), .unset, .unset, .unset, .unset, .unset, .unset, .unset, .unset, .unset, .unset] [])
                refine own_go (fun t_ k_ => XS.iload X34.here hx rfl (hb hby at_316) rfl k_) ?_
                show own_Go p e below _ T34 (mkF m 318 #[.val (.long q1), .second, .val (.int p2), .val (.int p3), .val (.int p4), .val (.int p5), .val (.ref b1), .val (.long mm), .second, .val (.ref b21), .val (.int (Int32.ofNat n)), .val (.int (Int32.ofNat (20 - n))), .val (.int sm), .val (.int so), .val (.int tO), .val (.int wo), .val (.int sb), .val (.int tb), .val (.int cb), .val (.int (Int32.ofNat k)), .val (.int (Int32.ofNat (20 - n))), .unset, .unset, .unset, .unset, .unset, .unset, .unset, .unset, .unset, .unset] [(.int (Int32.ofNat (20 - n)))])
                refine own_go (fun t_ k_ => XS.iconst X34.here hx rfl (hb hby at_318) k_) ?_
                show own_Go p e below _ T34 (mkF m 319 #[.val (.long q1), .second, .val (.int p2), .val (.int p3), .val (.int p4), .val (.int p5), .val (.ref b1), .val (.long mm), .second, .val (.ref b21), .val (.int (Int32.ofNat n)), .val (.int (Int32.ofNat (20 - n))), .val (.int sm), .val (.int so), .val (.int tO), .val (.int wo), .val (.int sb), .val (.int tb), .val (.int cb), .val (.int (Int32.ofNat k)), .val (.int (Int32.ofNat (20 - n))), .unset, .unset, .unset, .unset, .unset, .unset, .unset, .unset, .unset, .unset] [(.int (1 : Int32)), (.int (Int32.ofNat (20 - n)))])
                refine own_go (fun t_ k_ => XS.isub X34.here hx rfl (hb hby at_319) rfl k_) ?_
                show own_Go p e below _ T34 (mkF m 320 #[.val (.long q1), .second, .val (.int p2), .val (.int p3), .val (.int p4), .val (.int p5), .val (.ref b1), .val (.long mm), .second, .val (.ref b21), .val (.int (Int32.ofNat n)), .val (.int (Int32.ofNat (20 - n))), .val (.int sm), .val (.int so), .val (.int tO), .val (.int wo), .val (.int sb), .val (.int tb), .val (.int cb), .val (.int (Int32.ofNat k)), .val (.int (Int32.ofNat (20 - n))), .unset, .unset, .unset, .unset, .unset, .unset, .unset, .unset, .unset, .unset] [(.int ((Int32.ofNat (20 - n)) - (1 : Int32)))])
                rw [show ((Int32.ofNat (20 - n)) - (1 : Int32)) = (Int32.ofNat ((20 - n) - 1)) from own_oSub (a := (20 - n)) (b := 1) (by omega) (by omega)]
                show own_Go p e below _ T34 (mkF m 320 #[.val (.long q1), .second, .val (.int p2), .val (.int p3), .val (.int p4), .val (.int p5), .val (.ref b1), .val (.long mm), .second, .val (.ref b21), .val (.int (Int32.ofNat n)), .val (.int (Int32.ofNat (20 - n))), .val (.int sm), .val (.int so), .val (.int tO), .val (.int wo), .val (.int sb), .val (.int tb), .val (.int cb), .val (.int (Int32.ofNat k)), .val (.int (Int32.ofNat (20 - n))), .unset, .unset, .unset, .unset, .unset, .unset, .unset, .unset, .unset, .unset] [(.int (Int32.ofNat ((20 - n) - 1)))])
                refine own_go (fun t_ k_ => XS.istore X34.here hx rfl (hb hby at_320) rfl (l' := #[.val (.long q1), .second, .val (.int p2), .val (.int p3), .val (.int p4), .val (.int p5), .val (.ref b1), .val (.long mm), .second, .val (.ref b21), .val (.int (Int32.ofNat n)), .val (.int (Int32.ofNat (20 - n))), .val (.int sm), .val (.int so), .val (.int tO), .val (.int wo), .val (.int sb), .val (.int tb), .val (.int cb), .val (.int (Int32.ofNat k)), .val (.int (Int32.ofNat ((20 - n) - 1))), .unset, .unset, .unset, .unset, .unset, .unset, .unset, .unset, .unset, .unset]) rfl k_) ?_
                show own_Go p e below _ T34 (mkF m 322 #[.val (.long q1), .second, .val (.int p2), .val (.int p3), .val (.int p4), .val (.int p5), .val (.ref b1), .val (.long mm), .second, .val (.ref b21), .val (.int (Int32.ofNat n)), .val (.int (Int32.ofNat (20 - n))), .val (.int sm), .val (.int so), .val (.int tO), .val (.int wo), .val (.int sb), .val (.int tb), .val (.int cb), .val (.int (Int32.ofNat k)), .val (.int (Int32.ofNat ((20 - n) - 1))), .unset, .unset, .unset, .unset, .unset, .unset, .unset, .unset, .unset, .unset] [])
                exact j322 h34 (((20 - n) - 1)) T34 _ X34 N34 e34 (by unfold own_a; rw [if_pos h304]; omega) old34 V34 (Vtc.other W34 (Ne.symm hbt))
            by_cases h288 : wo = 0
            · show own_Go p e below _ T23 (mkF m 288 #[.val (.long q1), .second, .val (.int p2), .val (.int p3), .val (.int p4), .val (.int p5), .val (.ref b1), .val (.long mm), .second, .val (.ref b21), .val (.int (Int32.ofNat n)), .val (.int (Int32.ofNat (20 - n))), .val (.int sm), .val (.int so), .val (.int tO), .val (.int wo), .val (.int sb), .val (.int tb), .val (.int cb), .val (.int (Int32.ofNat k)), .unset, .unset, .unset, .unset, .unset, .unset, .unset, .unset, .unset, .unset, .unset] [(.int wo)])
              refine own_go (fun t_ k_ => XS.ifYes X23.here hx rfl (pc0 := 288) (pc' := 298) rfl (hb hby at_288) rfl (XT.i0_eq_t h288) (by decide) (by decide) k_) ?_
              show own_Go p e below _ T23 (mkF m 298 #[.val (.long q1), .second, .val (.int p2), .val (.int p3), .val (.int p4), .val (.int p5), .val (.ref b1), .val (.long mm), .second, .val (.ref b21), .val (.int (Int32.ofNat n)), .val (.int (Int32.ofNat (20 - n))), .val (.int sm), .val (.int so), .val (.int tO), .val (.int wo), .val (.int sb), .val (.int tb), .val (.int cb), .val (.int (Int32.ofNat k)), .unset, .unset, .unset, .unset, .unset, .unset, .unset, .unset, .unset, .unset, .unset] [])
              exact j298 h23 T23 _ X23 N23 e23 old23 (V23.cong (own_f1N h288)) (Vt22.other W23 (Ne.symm hbt))
            · show own_Go p e below _ T23 (mkF m 288 #[.val (.long q1), .second, .val (.int p2), .val (.int p3), .val (.int p4), .val (.int p5), .val (.ref b1), .val (.long mm), .second, .val (.ref b21), .val (.int (Int32.ofNat n)), .val (.int (Int32.ofNat (20 - n))), .val (.int sm), .val (.int so), .val (.int tO), .val (.int wo), .val (.int sb), .val (.int tb), .val (.int cb), .val (.int (Int32.ofNat k)), .unset, .unset, .unset, .unset, .unset, .unset, .unset, .unset, .unset, .unset, .unset] [(.int wo)])
              refine own_go (fun t_ k_ => XS.ifNo X23.here hx rfl (hb hby at_288) rfl (XT.i0_eq_f h288) k_) ?_
              show own_Go p e below _ T23 (mkF m 291 #[.val (.long q1), .second, .val (.int p2), .val (.int p3), .val (.int p4), .val (.int p5), .val (.ref b1), .val (.long mm), .second, .val (.ref b21), .val (.int (Int32.ofNat n)), .val (.int (Int32.ofNat (20 - n))), .val (.int sm), .val (.int so), .val (.int tO), .val (.int wo), .val (.int sb), .val (.int tb), .val (.int cb), .val (.int (Int32.ofNat k)), .unset, .unset, .unset, .unset, .unset, .unset, .unset, .unset, .unset, .unset, .unset] [])
              have hkk := hk.resolve_left h288
              refine own_go (fun t_ k_ => XS.aload X23.here hx rfl (hb hby at_291) rfl rfl k_) ?_
              show own_Go p e below _ T23 (mkF m 293 #[.val (.long q1), .second, .val (.int p2), .val (.int p3), .val (.int p4), .val (.int p5), .val (.ref b1), .val (.long mm), .second, .val (.ref b21), .val (.int (Int32.ofNat n)), .val (.int (Int32.ofNat (20 - n))), .val (.int sm), .val (.int so), .val (.int tO), .val (.int wo), .val (.int sb), .val (.int tb), .val (.int cb), .val (.int (Int32.ofNat k)), .unset, .unset, .unset, .unset, .unset, .unset, .unset, .unset, .unset, .unset, .unset] [(.ref b21)])
              refine own_go (fun t_ k_ => XS.iload X23.here hx rfl (hb hby at_293) rfl k_) ?_
              show own_Go p e below _ T23 (mkF m 295 #[.val (.long q1), .second, .val (.int p2), .val (.int p3), .val (.int p4), .val (.int p5), .val (.ref b1), .val (.long mm), .second, .val (.ref b21), .val (.int (Int32.ofNat n)), .val (.int (Int32.ofNat (20 - n))), .val (.int sm), .val (.int so), .val (.int tO), .val (.int wo), .val (.int sb), .val (.int tb), .val (.int cb), .val (.int (Int32.ofNat k)), .unset, .unset, .unset, .unset, .unset, .unset, .unset, .unset, .unset, .unset, .unset] [(.int (Int32.ofNat k)), (.ref b21)])
              refine own_go (fun t_ k_ => XS.iload X23.here hx rfl (hb hby at_295) rfl k_) ?_
              show own_Go p e below _ T23 (mkF m 297 #[.val (.long q1), .second, .val (.int p2), .val (.int p3), .val (.int p4), .val (.int p5), .val (.ref b1), .val (.long mm), .second, .val (.ref b21), .val (.int (Int32.ofNat n)), .val (.int (Int32.ofNat (20 - n))), .val (.int sm), .val (.int so), .val (.int tO), .val (.int wo), .val (.int sb), .val (.int tb), .val (.int cb), .val (.int (Int32.ofNat k)), .unset, .unset, .unset, .unset, .unset, .unset, .unset, .unset, .unset, .unset, .unset] [(.int cb), (.int (Int32.ofNat k)), (.ref b21)])
              obtain ⟨T35, h35, L35, X35, N35, e35, ⟨sl35, v35, W35⟩, V35, st35⟩ := own_stBA X23 hx hZ e23 V23 (by decide) k (by omega) (y := cb) hcb (f' := (own_f1 mm tb wo cb k)) (own_f1W h288) N23 ge_b21 (Ls := #[.val (.long q1), .second, .val (.int p2), .val (.int p3), .val (.int p4), .val (.int p5), .val (.ref b1), .val (.long mm), .second, .val (.ref b21), .val (.int (Int32.ofNat n)), .val (.int (Int32.ofNat (20 - n))), .val (.int sm), .val (.int so), .val (.int tO), .val (.int wo), .val (.int sb), .val (.int tb), .val (.int cb), .val (.int (Int32.ofNat k)), .unset, .unset, .unset, .unset, .unset, .unset, .unset, .unset, .unset, .unset, .unset]) (rest := []) (hb hby at_297)
              have old35 := old23.wr W35 ge_b21
              refine own_go st35 ?_
              show own_Go p e below _ T35 (mkF m 298 #[.val (.long q1), .second, .val (.int p2), .val (.int p3), .val (.int p4), .val (.int p5), .val (.ref b1), .val (.long mm), .second, .val (.ref b21), .val (.int (Int32.ofNat n)), .val (.int (Int32.ofNat (20 - n))), .val (.int sm), .val (.int so), .val (.int tO), .val (.int wo), .val (.int sb), .val (.int tb), .val (.int cb), .val (.int (Int32.ofNat k)), .unset, .unset, .unset, .unset, .unset, .unset, .unset, .unset, .unset, .unset, .unset] [])
              exact j298 h35 T35 _ X35 N35 e35 old35 V35 ((Vt22.other W23 (Ne.symm hbt)).other W35 (Ne.symm hbt))
          by_cases h253 : wo = 0
          · show own_Go p e below _ Ta (mkF m 253 #[.val (.long q1), .second, .val (.int p2), .val (.int p3), .val (.int p4), .val (.int p5), .val (.ref b1), .val (.long mm), .second, .val (.ref b21), .val (.int (Int32.ofNat n)), .val (.int (Int32.ofNat (20 - n))), .val (.int sm), .val (.int so), .val (.int tO), .val (.int wo), .val (.int sb), .val (.int tb), .val (.int cb), .unset, .unset, .unset, .unset, .unset, .unset, .unset, .unset, .unset, .unset, .unset, .unset] [(.int wo)])
            refine own_go (fun t_ k_ => XS.ifYes Xa.here hx rfl (pc0 := 253) (pc' := 276) rfl (hb hby at_253) rfl (XT.i0_eq_t h253) (by decide) (by decide) k_) ?_
            show own_Go p e below _ Ta (mkF m 276 #[.val (.long q1), .second, .val (.int p2), .val (.int p3), .val (.int p4), .val (.int p5), .val (.ref b1), .val (.long mm), .second, .val (.ref b21), .val (.int (Int32.ofNat n)), .val (.int (Int32.ofNat (20 - n))), .val (.int sm), .val (.int so), .val (.int tO), .val (.int wo), .val (.int sb), .val (.int tb), .val (.int cb), .unset, .unset, .unset, .unset, .unset, .unset, .unset, .unset, .unset, .unset, .unset, .unset] [])
            refine own_go (fun t_ k_ => XS.iconst Xa.here hx rfl (hb hby at_276) k_) ?_
            show own_Go p e below _ Ta (mkF m 277 #[.val (.long q1), .second, .val (.int p2), .val (.int p3), .val (.int p4), .val (.int p5), .val (.ref b1), .val (.long mm), .second, .val (.ref b21), .val (.int (Int32.ofNat n)), .val (.int (Int32.ofNat (20 - n))), .val (.int sm), .val (.int so), .val (.int tO), .val (.int wo), .val (.int sb), .val (.int tb), .val (.int cb), .unset, .unset, .unset, .unset, .unset, .unset, .unset, .unset, .unset, .unset, .unset, .unset] [(.int (0 : Int32))])
            exact j277 0 Ta _ Xa Na ea (Or.inl h253)
          · show own_Go p e below _ Ta (mkF m 253 #[.val (.long q1), .second, .val (.int p2), .val (.int p3), .val (.int p4), .val (.int p5), .val (.ref b1), .val (.long mm), .second, .val (.ref b21), .val (.int (Int32.ofNat n)), .val (.int (Int32.ofNat (20 - n))), .val (.int sm), .val (.int so), .val (.int tO), .val (.int wo), .val (.int sb), .val (.int tb), .val (.int cb), .unset, .unset, .unset, .unset, .unset, .unset, .unset, .unset, .unset, .unset, .unset, .unset] [(.int wo)])
            refine own_go (fun t_ k_ => XS.ifNo Xa.here hx rfl (hb hby at_253) rfl (XT.i0_eq_f h253) k_) ?_
            show own_Go p e below _ Ta (mkF m 256 #[.val (.long q1), .second, .val (.int p2), .val (.int p3), .val (.int p4), .val (.int p5), .val (.ref b1), .val (.long mm), .second, .val (.ref b21), .val (.int (Int32.ofNat n)), .val (.int (Int32.ofNat (20 - n))), .val (.int sm), .val (.int so), .val (.int tO), .val (.int wo), .val (.int sb), .val (.int tb), .val (.int cb), .unset, .unset, .unset, .unset, .unset, .unset, .unset, .unset, .unset, .unset, .unset, .unset] [])
            have hn2 := hwo.resolve_left h253
            refine own_go (fun t_ k_ => XS.iload Xa.here hx rfl (hb hby at_256) rfl k_) ?_
            show own_Go p e below _ Ta (mkF m 258 #[.val (.long q1), .second, .val (.int p2), .val (.int p3), .val (.int p4), .val (.int p5), .val (.ref b1), .val (.long mm), .second, .val (.ref b21), .val (.int (Int32.ofNat n)), .val (.int (Int32.ofNat (20 - n))), .val (.int sm), .val (.int so), .val (.int tO), .val (.int wo), .val (.int sb), .val (.int tb), .val (.int cb), .unset, .unset, .unset, .unset, .unset, .unset, .unset, .unset, .unset, .unset, .unset, .unset] [(.int (Int32.ofNat (20 - n)))])
            refine own_go (fun t_ k_ => XS.iconst Xa.here hx rfl (hb hby at_258) k_) ?_
            show own_Go p e below _ Ta (mkF m 259 #[.val (.long q1), .second, .val (.int p2), .val (.int p3), .val (.int p4), .val (.int p5), .val (.ref b1), .val (.long mm), .second, .val (.ref b21), .val (.int (Int32.ofNat n)), .val (.int (Int32.ofNat (20 - n))), .val (.int sm), .val (.int so), .val (.int tO), .val (.int wo), .val (.int sb), .val (.int tb), .val (.int cb), .unset, .unset, .unset, .unset, .unset, .unset, .unset, .unset, .unset, .unset, .unset, .unset] [(.int (1 : Int32)), (.int (Int32.ofNat (20 - n)))])
            refine own_go (fun t_ k_ => XS.iadd Xa.here hx rfl (hb hby at_259) rfl k_) ?_
            show own_Go p e below _ Ta (mkF m 260 #[.val (.long q1), .second, .val (.int p2), .val (.int p3), .val (.int p4), .val (.int p5), .val (.ref b1), .val (.long mm), .second, .val (.ref b21), .val (.int (Int32.ofNat n)), .val (.int (Int32.ofNat (20 - n))), .val (.int sm), .val (.int so), .val (.int tO), .val (.int wo), .val (.int sb), .val (.int tb), .val (.int cb), .unset, .unset, .unset, .unset, .unset, .unset, .unset, .unset, .unset, .unset, .unset, .unset] [(.int ((Int32.ofNat (20 - n)) + (1 : Int32)))])
            rw [show ((Int32.ofNat (20 - n)) + (1 : Int32)) = (Int32.ofNat ((20 - n) + 1)) from own_oAdd (20 - n) 1]
            show own_Go p e below _ Ta (mkF m 260 #[.val (.long q1), .second, .val (.int p2), .val (.int p3), .val (.int p4), .val (.int p5), .val (.ref b1), .val (.long mm), .second, .val (.ref b21), .val (.int (Int32.ofNat n)), .val (.int (Int32.ofNat (20 - n))), .val (.int sm), .val (.int so), .val (.int tO), .val (.int wo), .val (.int sb), .val (.int tb), .val (.int cb), .unset, .unset, .unset, .unset, .unset, .unset, .unset, .unset, .unset, .unset, .unset, .unset] [(.int (Int32.ofNat ((20 - n) + 1)))])
            refine own_go (fun t_ k_ => XS.iloadN Xa.here hx rfl (hb hby at_260) rfl k_) ?_
            show own_Go p e below _ Ta (mkF m 261 #[.val (.long q1), .second, .val (.int p2), .val (.int p3), .val (.int p4), .val (.int p5), .val (.ref b1), .val (.long mm), .second, .val (.ref b21), .val (.int (Int32.ofNat n)), .val (.int (Int32.ofNat (20 - n))), .val (.int sm), .val (.int so), .val (.int tO), .val (.int wo), .val (.int sb), .val (.int tb), .val (.int cb), .unset, .unset, .unset, .unset, .unset, .unset, .unset, .unset, .unset, .unset, .unset, .unset] [(.int p2), (.int (Int32.ofNat ((20 - n) + 1)))])
            refine own_go (fun t_ k_ => XS.bipush Xa.here hx rfl (hb hby at_261) k_) ?_
            show own_Go p e below _ Ta (mkF m 263 #[.val (.long q1), .second, .val (.int p2), .val (.int p3), .val (.int p4), .val (.int p5), .val (.ref b1), .val (.long mm), .second, .val (.ref b21), .val (.int (Int32.ofNat n)), .val (.int (Int32.ofNat (20 - n))), .val (.int sm), .val (.int so), .val (.int tO), .val (.int wo), .val (.int sb), .val (.int tb), .val (.int cb), .unset, .unset, .unset, .unset, .unset, .unset, .unset, .unset, .unset, .unset, .unset, .unset] [(.int (9 : Int32)), (.int p2), (.int (Int32.ofNat ((20 - n) + 1)))])
            refine own_go (fun t_ k_ => XS.iushr Xa.here hx rfl (hb hby at_263) rfl k_) ?_
            show own_Go p e below _ Ta (mkF m 264 #[.val (.long q1), .second, .val (.int p2), .val (.int p3), .val (.int p4), .val (.int p5), .val (.ref b1), .val (.long mm), .second, .val (.ref b21), .val (.int (Int32.ofNat n)), .val (.int (Int32.ofNat (20 - n))), .val (.int sm), .val (.int so), .val (.int tO), .val (.int wo), .val (.int sb), .val (.int tb), .val (.int cb), .unset, .unset, .unset, .unset, .unset, .unset, .unset, .unset, .unset, .unset, .unset, .unset] [(.int ((p2.toUInt32 >>> ((9 : Int32) &&& 31).toUInt32).toInt32)), (.int (Int32.ofNat ((20 - n) + 1)))])
            refine own_go (fun t_ k_ => XS.bipush Xa.here hx rfl (hb hby at_264) k_) ?_
            show own_Go p e below _ Ta (mkF m 266 #[.val (.long q1), .second, .val (.int p2), .val (.int p3), .val (.int p4), .val (.int p5), .val (.ref b1), .val (.long mm), .second, .val (.ref b21), .val (.int (Int32.ofNat n)), .val (.int (Int32.ofNat (20 - n))), .val (.int sm), .val (.int so), .val (.int tO), .val (.int wo), .val (.int sb), .val (.int tb), .val (.int cb), .unset, .unset, .unset, .unset, .unset, .unset, .unset, .unset, .unset, .unset, .unset, .unset] [(.int (31 : Int32)), (.int ((p2.toUInt32 >>> ((9 : Int32) &&& 31).toUInt32).toInt32)), (.int (Int32.ofNat ((20 - n) + 1)))])
            refine own_go (fun t_ k_ => XS.iand Xa.here hx rfl (hb hby at_266) rfl k_) ?_
            show own_Go p e below _ Ta (mkF m 267 #[.val (.long q1), .second, .val (.int p2), .val (.int p3), .val (.int p4), .val (.int p5), .val (.ref b1), .val (.long mm), .second, .val (.ref b21), .val (.int (Int32.ofNat n)), .val (.int (Int32.ofNat (20 - n))), .val (.int sm), .val (.int so), .val (.int tO), .val (.int wo), .val (.int sb), .val (.int tb), .val (.int cb), .unset, .unset, .unset, .unset, .unset, .unset, .unset, .unset, .unset, .unset, .unset, .unset] [(.int (((p2.toUInt32 >>> ((9 : Int32) &&& 31).toUInt32).toInt32) &&& (31 : Int32))), (.int (Int32.ofNat ((20 - n) + 1)))])
            refine own_go (fun t_ k_ => XS.iload Xa.here hx rfl (hb hby at_267) rfl k_) ?_
            show own_Go p e below _ Ta (mkF m 269 #[.val (.long q1), .second, .val (.int p2), .val (.int p3), .val (.int p4), .val (.int p5), .val (.ref b1), .val (.long mm), .second, .val (.ref b21), .val (.int (Int32.ofNat n)), .val (.int (Int32.ofNat (20 - n))), .val (.int sm), .val (.int so), .val (.int tO), .val (.int wo), .val (.int sb), .val (.int tb), .val (.int cb), .unset, .unset, .unset, .unset, .unset, .unset, .unset, .unset, .unset, .unset, .unset, .unset] [(.int (Int32.ofNat n)), (.int (((p2.toUInt32 >>> ((9 : Int32) &&& 31).toUInt32).toInt32) &&& (31 : Int32))), (.int (Int32.ofNat ((20 - n) + 1)))])
            refine own_go (fun t_ k_ => XS.iconst Xa.here hx rfl (hb hby at_269) k_) ?_
            show own_Go p e below _ Ta (mkF m 270 #[.val (.long q1), .second, .val (.int p2), .val (.int p3), .val (.int p4), .val (.int p5), .val (.ref b1), .val (.long mm), .second, .val (.ref b21), .val (.int (Int32.ofNat n)), .val (.int (Int32.ofNat (20 - n))), .val (.int sm), .val (.int so), .val (.int tO), .val (.int wo), .val (.int sb), .val (.int tb), .val (.int cb), .unset, .unset, .unset, .unset, .unset, .unset, .unset, .unset, .unset, .unset, .unset, .unset] [(.int (1 : Int32)), (.int (Int32.ofNat n)), (.int (((p2.toUInt32 >>> ((9 : Int32) &&& 31).toUInt32).toInt32) &&& (31 : Int32))), (.int (Int32.ofNat ((20 - n) + 1)))])
            refine own_go (fun t_ k_ => XS.isub Xa.here hx rfl (hb hby at_270) rfl k_) ?_
            show own_Go p e below _ Ta (mkF m 271 #[.val (.long q1), .second, .val (.int p2), .val (.int p3), .val (.int p4), .val (.int p5), .val (.ref b1), .val (.long mm), .second, .val (.ref b21), .val (.int (Int32.ofNat n)), .val (.int (Int32.ofNat (20 - n))), .val (.int sm), .val (.int so), .val (.int tO), .val (.int wo), .val (.int sb), .val (.int tb), .val (.int cb), .unset, .unset, .unset, .unset, .unset, .unset, .unset, .unset, .unset, .unset, .unset, .unset] [(.int ((Int32.ofNat n) - (1 : Int32))), (.int (((p2.toUInt32 >>> ((9 : Int32) &&& 31).toUInt32).toInt32) &&& (31 : Int32))), (.int (Int32.ofNat ((20 - n) + 1)))])
            rw [show ((Int32.ofNat n) - (1 : Int32)) = (Int32.ofNat (n - 1)) from own_oSub (a := n) (b := 1) (by omega) (by omega)]
            show own_Go p e below _ Ta (mkF m 271 #[.val (.long q1), .second, .val (.int p2), .val (.int p3), .val (.int p4), .val (.int p5), .val (.ref b1), .val (.long mm), .second, .val (.ref b21), .val (.int (Int32.ofNat n)), .val (.int (Int32.ofNat (20 - n))), .val (.int sm), .val (.int so), .val (.int tO), .val (.int wo), .val (.int sb), .val (.int tb), .val (.int cb), .unset, .unset, .unset, .unset, .unset, .unset, .unset, .unset, .unset, .unset, .unset, .unset] [(.int (Int32.ofNat (n - 1))), (.int (((p2.toUInt32 >>> ((9 : Int32) &&& 31).toUInt32).toInt32) &&& (31 : Int32))), (.int (Int32.ofNat ((20 - n) + 1)))])
            refine own_go (fun t_ k_ => iremM Xa hx rfl (hb hby at_271) rfl (own_oNe0 (by omega) (by omega)) k_) ?_
            show own_Go p e below _ Ta (mkF m 272 #[.val (.long q1), .second, .val (.int p2), .val (.int p3), .val (.int p4), .val (.int p5), .val (.ref b1), .val (.long mm), .second, .val (.ref b21), .val (.int (Int32.ofNat n)), .val (.int (Int32.ofNat (20 - n))), .val (.int sm), .val (.int so), .val (.int tO), .val (.int wo), .val (.int sb), .val (.int tb), .val (.int cb), .unset, .unset, .unset, .unset, .unset, .unset, .unset, .unset, .unset, .unset, .unset, .unset] [(.int ((((p2.toUInt32 >>> ((9 : Int32) &&& 31).toUInt32).toInt32) &&& (31 : Int32)) % (Int32.ofNat (n - 1)))), (.int (Int32.ofNat ((20 - n) + 1)))])
            obtain ⟨kr, hkr, ekr⟩ := own_remN p2 (n - 1) (by omega) (by omega)
            rw [ekr]
            show own_Go p e below _ Ta (mkF m 272 #[.val (.long q1), .second, .val (.int p2), .val (.int p3), .val (.int p4), .val (.int p5), .val (.ref b1), .val (.long mm), .second, .val (.ref b21), .val (.int (Int32.ofNat n)), .val (.int (Int32.ofNat (20 - n))), .val (.int sm), .val (.int so), .val (.int tO), .val (.int wo), .val (.int sb), .val (.int tb), .val (.int cb), .unset, .unset, .unset, .unset, .unset, .unset, .unset, .unset, .unset, .unset, .unset, .unset] [(.int (Int32.ofNat kr)), (.int (Int32.ofNat ((20 - n) + 1)))])
            refine own_go (fun t_ k_ => XS.iadd Xa.here hx rfl (hb hby at_272) rfl k_) ?_
            show own_Go p e below _ Ta (mkF m 273 #[.val (.long q1), .second, .val (.int p2), .val (.int p3), .val (.int p4), .val (.int p5), .val (.ref b1), .val (.long mm), .second, .val (.ref b21), .val (.int (Int32.ofNat n)), .val (.int (Int32.ofNat (20 - n))), .val (.int sm), .val (.int so), .val (.int tO), .val (.int wo), .val (.int sb), .val (.int tb), .val (.int cb), .unset, .unset, .unset, .unset, .unset, .unset, .unset, .unset, .unset, .unset, .unset, .unset] [(.int ((Int32.ofNat ((20 - n) + 1)) + (Int32.ofNat kr)))])
            rw [show ((Int32.ofNat ((20 - n) + 1)) + (Int32.ofNat kr)) = (Int32.ofNat (((20 - n) + 1) + kr)) from own_oAdd ((20 - n) + 1) kr]
            show own_Go p e below _ Ta (mkF m 273 #[.val (.long q1), .second, .val (.int p2), .val (.int p3), .val (.int p4), .val (.int p5), .val (.ref b1), .val (.long mm), .second, .val (.ref b21), .val (.int (Int32.ofNat n)), .val (.int (Int32.ofNat (20 - n))), .val (.int sm), .val (.int so), .val (.int tO), .val (.int wo), .val (.int sb), .val (.int tb), .val (.int cb), .unset, .unset, .unset, .unset, .unset, .unset, .unset, .unset, .unset, .unset, .unset, .unset] [(.int (Int32.ofNat (((20 - n) + 1) + kr)))])
            refine own_go (fun t_ k_ => XS.goto Xa.here hx rfl (pc0 := 273) (pc' := 277) rfl (hb hby at_273) (by decide) (by decide) k_) ?_
            show own_Go p e below _ Ta (mkF m 277 #[.val (.long q1), .second, .val (.int p2), .val (.int p3), .val (.int p4), .val (.int p5), .val (.ref b1), .val (.long mm), .second, .val (.ref b21), .val (.int (Int32.ofNat n)), .val (.int (Int32.ofNat (20 - n))), .val (.int sm), .val (.int so), .val (.int tO), .val (.int wo), .val (.int sb), .val (.int tb), .val (.int cb), .unset, .unset, .unset, .unset, .unset, .unset, .unset, .unset, .unset, .unset, .unset, .unset] [(.int (Int32.ofNat (((20 - n) + 1) + kr)))])
            exact j277 ((((20 - n) + 1) + kr)) Ta _ Xa Na ea (Or.inr ⟨by omega, by omega⟩)
        by_cases h229 : sm = (1 : Int32)
        · show own_Go p e below _ Ta (mkF m 229 #[.val (.long q1), .second, .val (.int p2), .val (.int p3), .val (.int p4), .val (.int p5), .val (.ref b1), .val (.long mm), .second, .val (.ref b21), .val (.int (Int32.ofNat n)), .val (.int (Int32.ofNat (20 - n))), .val (.int sm), .val (.int so), .val (.int tO), .val (.int wo), .unset, .unset, .unset, .unset, .unset, .unset, .unset, .unset, .unset, .unset, .unset, .unset, .unset, .unset, .unset] [(.int (1 : Int32)), (.int sm)])
          refine own_go (fun t_ k_ => XS.icmpNo Xa.here hx rfl (hb hby at_229) rfl (XT.ii_ne_f h229) k_) ?_
          show own_Go p e below _ Ta (mkF m 232 #[.val (.long q1), .second, .val (.int p2), .val (.int p3), .val (.int p4), .val (.int p5), .val (.ref b1), .val (.long mm), .second, .val (.ref b21), .val (.int (Int32.ofNat n)), .val (.int (Int32.ofNat (20 - n))), .val (.int sm), .val (.int so), .val (.int tO), .val (.int wo), .unset, .unset, .unset, .unset, .unset, .unset, .unset, .unset, .unset, .unset, .unset, .unset, .unset, .unset, .unset] [])
          refine own_go (fun t_ k_ => XS.bipush Xa.here hx rfl (hb hby at_232) k_) ?_
          show own_Go p e below _ Ta (mkF m 234 #[.val (.long q1), .second, .val (.int p2), .val (.int p3), .val (.int p4), .val (.int p5), .val (.ref b1), .val (.long mm), .second, .val (.ref b21), .val (.int (Int32.ofNat n)), .val (.int (Int32.ofNat (20 - n))), .val (.int sm), .val (.int so), .val (.int tO), .val (.int wo), .unset, .unset, .unset, .unset, .unset, .unset, .unset, .unset, .unset, .unset, .unset, .unset, .unset, .unset, .unset] [(.int (45 : Int32))])
          refine own_go (fun t_ k_ => XS.goto Xa.here hx rfl (pc0 := 234) (pc' := 240) rfl (hb hby at_234) (by decide) (by decide) k_) ?_
          show own_Go p e below _ Ta (mkF m 240 #[.val (.long q1), .second, .val (.int p2), .val (.int p3), .val (.int p4), .val (.int p5), .val (.ref b1), .val (.long mm), .second, .val (.ref b21), .val (.int (Int32.ofNat n)), .val (.int (Int32.ofNat (20 - n))), .val (.int sm), .val (.int so), .val (.int tO), .val (.int wo), .unset, .unset, .unset, .unset, .unset, .unset, .unset, .unset, .unset, .unset, .unset, .unset, .unset, .unset, .unset] [(.int (45 : Int32))])
          exact jn229 _ (fun _ => rfl) (fun q => absurd h229 q)
        · show own_Go p e below _ Ta (mkF m 229 #[.val (.long q1), .second, .val (.int p2), .val (.int p3), .val (.int p4), .val (.int p5), .val (.ref b1), .val (.long mm), .second, .val (.ref b21), .val (.int (Int32.ofNat n)), .val (.int (Int32.ofNat (20 - n))), .val (.int sm), .val (.int so), .val (.int tO), .val (.int wo), .unset, .unset, .unset, .unset, .unset, .unset, .unset, .unset, .unset, .unset, .unset, .unset, .unset, .unset, .unset] [(.int (1 : Int32)), (.int sm)])
          refine own_go (fun t_ k_ => XS.icmpYes Xa.here hx rfl (pc0 := 229) (pc' := 237) rfl (hb hby at_229) rfl (XT.ii_ne_t h229) (by decide) (by decide) k_) ?_
          show own_Go p e below _ Ta (mkF m 237 #[.val (.long q1), .second, .val (.int p2), .val (.int p3), .val (.int p4), .val (.int p5), .val (.ref b1), .val (.long mm), .second, .val (.ref b21), .val (.int (Int32.ofNat n)), .val (.int (Int32.ofNat (20 - n))), .val (.int sm), .val (.int so), .val (.int tO), .val (.int wo), .unset, .unset, .unset, .unset, .unset, .unset, .unset, .unset, .unset, .unset, .unset, .unset, .unset, .unset, .unset] [])
          refine own_go (fun t_ k_ => XS.iload Xa.here hx rfl (hb hby at_237) rfl k_) ?_
          show own_Go p e below _ Ta (mkF m 239 #[.val (.long q1), .second, .val (.int p2), .val (.int p3), .val (.int p4), .val (.int p5), .val (.ref b1), .val (.long mm), .second, .val (.ref b21), .val (.int (Int32.ofNat n)), .val (.int (Int32.ofNat (20 - n))), .val (.int sm), .val (.int so), .val (.int tO), .val (.int wo), .unset, .unset, .unset, .unset, .unset, .unset, .unset, .unset, .unset, .unset, .unset, .unset, .unset, .unset, .unset] [(.int p4)])
          refine own_go (fun t_ k_ => XS.i2b Xa.here hx rfl (hb hby at_239) rfl k_) ?_
          show own_Go p e below _ Ta (mkF m 240 #[.val (.long q1), .second, .val (.int p2), .val (.int p3), .val (.int p4), .val (.int p5), .val (.ref b1), .val (.long mm), .second, .val (.ref b21), .val (.int (Int32.ofNat n)), .val (.int (Int32.ofNat (20 - n))), .val (.int sm), .val (.int so), .val (.int tO), .val (.int wo), .unset, .unset, .unset, .unset, .unset, .unset, .unset, .unset, .unset, .unset, .unset, .unset, .unset, .unset, .unset] [(.int p4.toInt8.toInt32)])
          exact jn229 _ (fun q => absurd q h229) (fun _ => rfl)
      by_cases hc210 : (((p2.toUInt32 >>> ((8 : Int32) &&& 31).toUInt32).toInt32) &&& (1 : Int32)) = 0
      · show own_Go p e below _ T22 (mkF m 210 #[.val (.long q1), .second, .val (.int p2), .val (.int p3), .val (.int p4), .val (.int p5), .val (.ref b1), .val (.long mm), .second, .val (.ref b21), .val (.int (Int32.ofNat n)), .val (.int (Int32.ofNat (20 - n))), .val (.int sm), .val (.int so), .val (.int tO), .unset, .unset, .unset, .unset, .unset, .unset, .unset, .unset, .unset, .unset, .unset, .unset, .unset, .unset, .unset, .unset] [(.int (((p2.toUInt32 >>> ((8 : Int32) &&& 31).toUInt32).toInt32) &&& (1 : Int32)))])
        refine own_go (fun t_ k_ => XS.ifYes X22.here hx rfl (pc0 := 210) (pc' := 223) rfl (hb hby at_210) rfl (XT.i0_eq_t hc210) (by decide) (by decide) k_) ?_
        show own_Go p e below _ T22 (mkF m 223 #[.val (.long q1), .second, .val (.int p2), .val (.int p3), .val (.int p4), .val (.int p5), .val (.ref b1), .val (.long mm), .second, .val (.ref b21), .val (.int (Int32.ofNat n)), .val (.int (Int32.ofNat (20 - n))), .val (.int sm), .val (.int so), .val (.int tO), .unset, .unset, .unset, .unset, .unset, .unset, .unset, .unset, .unset, .unset, .unset, .unset, .unset, .unset, .unset, .unset] [])
        refine own_go (fun t_ k_ => XS.iconst X22.here hx rfl (hb hby at_223) k_) ?_
        show own_Go p e below _ T22 (mkF m 224 #[.val (.long q1), .second, .val (.int p2), .val (.int p3), .val (.int p4), .val (.int p5), .val (.ref b1), .val (.long mm), .second, .val (.ref b21), .val (.int (Int32.ofNat n)), .val (.int (Int32.ofNat (20 - n))), .val (.int sm), .val (.int so), .val (.int tO), .unset, .unset, .unset, .unset, .unset, .unset, .unset, .unset, .unset, .unset, .unset, .unset, .unset, .unset, .unset, .unset] [(.int (0 : Int32))])
        exact j224 (0 : Int32) T22 _ X22 M22 rfl (Or.inl rfl)
      · show own_Go p e below _ T22 (mkF m 210 #[.val (.long q1), .second, .val (.int p2), .val (.int p3), .val (.int p4), .val (.int p5), .val (.ref b1), .val (.long mm), .second, .val (.ref b21), .val (.int (Int32.ofNat n)), .val (.int (Int32.ofNat (20 - n))), .val (.int sm), .val (.int so), .val (.int tO), .unset, .unset, .unset, .unset, .unset, .unset, .unset, .unset, .unset, .unset, .unset, .unset, .unset, .unset, .unset, .unset] [(.int (((p2.toUInt32 >>> ((8 : Int32) &&& 31).toUInt32).toInt32) &&& (1 : Int32)))])
        refine own_go (fun t_ k_ => XS.ifNo X22.here hx rfl (hb hby at_210) rfl (XT.i0_eq_f hc210) k_) ?_
        show own_Go p e below _ T22 (mkF m 213 #[.val (.long q1), .second, .val (.int p2), .val (.int p3), .val (.int p4), .val (.int p5), .val (.ref b1), .val (.long mm), .second, .val (.ref b21), .val (.int (Int32.ofNat n)), .val (.int (Int32.ofNat (20 - n))), .val (.int sm), .val (.int so), .val (.int tO), .unset, .unset, .unset, .unset, .unset, .unset, .unset, .unset, .unset, .unset, .unset, .unset, .unset, .unset, .unset, .unset] [])
        refine own_go (fun t_ k_ => XS.iload X22.here hx rfl (hb hby at_213) rfl k_) ?_
        show own_Go p e below _ T22 (mkF m 215 #[.val (.long q1), .second, .val (.int p2), .val (.int p3), .val (.int p4), .val (.int p5), .val (.ref b1), .val (.long mm), .second, .val (.ref b21), .val (.int (Int32.ofNat n)), .val (.int (Int32.ofNat (20 - n))), .val (.int sm), .val (.int so), .val (.int tO), .unset, .unset, .unset, .unset, .unset, .unset, .unset, .unset, .unset, .unset, .unset, .unset, .unset, .unset, .unset, .unset] [(.int (Int32.ofNat n))])
        refine own_go (fun t_ k_ => XS.iconst X22.here hx rfl (hb hby at_215) k_) ?_
        show own_Go p e below _ T22 (mkF m 216 #[.val (.long q1), .second, .val (.int p2), .val (.int p3), .val (.int p4), .val (.int p5), .val (.ref b1), .val (.long mm), .second, .val (.ref b21), .val (.int (Int32.ofNat n)), .val (.int (Int32.ofNat (20 - n))), .val (.int sm), .val (.int so), .val (.int tO), .unset, .unset, .unset, .unset, .unset, .unset, .unset, .unset, .unset, .unset, .unset, .unset, .unset, .unset, .unset, .unset] [(.int (2 : Int32)), (.int (Int32.ofNat n))])
        by_cases h216 : n < 2
        · show own_Go p e below _ T22 (mkF m 216 #[.val (.long q1), .second, .val (.int p2), .val (.int p3), .val (.int p4), .val (.int p5), .val (.ref b1), .val (.long mm), .second, .val (.ref b21), .val (.int (Int32.ofNat n)), .val (.int (Int32.ofNat (20 - n))), .val (.int sm), .val (.int so), .val (.int tO), .unset, .unset, .unset, .unset, .unset, .unset, .unset, .unset, .unset, .unset, .unset, .unset, .unset, .unset, .unset, .unset] [(.int (2 : Int32)), (.int (Int32.ofNat n))])
          refine own_go (fun t_ k_ => XS.icmpYes X22.here hx rfl (pc0 := 216) (pc' := 223) rfl (hb hby at_216) rfl (XT.ii_lt_t ((own_oLt (b := 2) (by omega) (by omega)).mpr h216)) (by decide) (by decide) k_) ?_
          show own_Go p e below _ T22 (mkF m 223 #[.val (.long q1), .second, .val (.int p2), .val (.int p3), .val (.int p4), .val (.int p5), .val (.ref b1), .val (.long mm), .second, .val (.ref b21), .val (.int (Int32.ofNat n)), .val (.int (Int32.ofNat (20 - n))), .val (.int sm), .val (.int so), .val (.int tO), .unset, .unset, .unset, .unset, .unset, .unset, .unset, .unset, .unset, .unset, .unset, .unset, .unset, .unset, .unset, .unset] [])
          refine own_go (fun t_ k_ => XS.iconst X22.here hx rfl (hb hby at_223) k_) ?_
          show own_Go p e below _ T22 (mkF m 224 #[.val (.long q1), .second, .val (.int p2), .val (.int p3), .val (.int p4), .val (.int p5), .val (.ref b1), .val (.long mm), .second, .val (.ref b21), .val (.int (Int32.ofNat n)), .val (.int (Int32.ofNat (20 - n))), .val (.int sm), .val (.int so), .val (.int tO), .unset, .unset, .unset, .unset, .unset, .unset, .unset, .unset, .unset, .unset, .unset, .unset, .unset, .unset, .unset, .unset] [(.int (0 : Int32))])
          exact j224 (0 : Int32) T22 _ X22 M22 rfl (Or.inl rfl)
        · show own_Go p e below _ T22 (mkF m 216 #[.val (.long q1), .second, .val (.int p2), .val (.int p3), .val (.int p4), .val (.int p5), .val (.ref b1), .val (.long mm), .second, .val (.ref b21), .val (.int (Int32.ofNat n)), .val (.int (Int32.ofNat (20 - n))), .val (.int sm), .val (.int so), .val (.int tO), .unset, .unset, .unset, .unset, .unset, .unset, .unset, .unset, .unset, .unset, .unset, .unset, .unset, .unset, .unset, .unset] [(.int (2 : Int32)), (.int (Int32.ofNat n))])
          refine own_go (fun t_ k_ => XS.icmpNo X22.here hx rfl (hb hby at_216) rfl (XT.ii_lt_f (fun q => h216 ((own_oLt (b := 2) (by omega) (by omega)).mp q))) k_) ?_
          show own_Go p e below _ T22 (mkF m 219 #[.val (.long q1), .second, .val (.int p2), .val (.int p3), .val (.int p4), .val (.int p5), .val (.ref b1), .val (.long mm), .second, .val (.ref b21), .val (.int (Int32.ofNat n)), .val (.int (Int32.ofNat (20 - n))), .val (.int sm), .val (.int so), .val (.int tO), .unset, .unset, .unset, .unset, .unset, .unset, .unset, .unset, .unset, .unset, .unset, .unset, .unset, .unset, .unset, .unset] [])
          refine own_go (fun t_ k_ => XS.iconst X22.here hx rfl (hb hby at_219) k_) ?_
          show own_Go p e below _ T22 (mkF m 220 #[.val (.long q1), .second, .val (.int p2), .val (.int p3), .val (.int p4), .val (.int p5), .val (.ref b1), .val (.long mm), .second, .val (.ref b21), .val (.int (Int32.ofNat n)), .val (.int (Int32.ofNat (20 - n))), .val (.int sm), .val (.int so), .val (.int tO), .unset, .unset, .unset, .unset, .unset, .unset, .unset, .unset, .unset, .unset, .unset, .unset, .unset, .unset, .unset, .unset] [(.int (1 : Int32))])
          refine own_go (fun t_ k_ => XS.goto X22.here hx rfl (pc0 := 220) (pc' := 224) rfl (hb hby at_220) (by decide) (by decide) k_) ?_
          show own_Go p e below _ T22 (mkF m 224 #[.val (.long q1), .second, .val (.int p2), .val (.int p3), .val (.int p4), .val (.int p5), .val (.ref b1), .val (.long mm), .second, .val (.ref b21), .val (.int (Int32.ofNat n)), .val (.int (Int32.ofNat (20 - n))), .val (.int sm), .val (.int so), .val (.int tO), .unset, .unset, .unset, .unset, .unset, .unset, .unset, .unset, .unset, .unset, .unset, .unset, .unset, .unset, .unset, .unset] [(.int (1 : Int32))])
          exact j224 (1 : Int32) T22 _ X22 M22 rfl (Or.inr (by omega))
    by_cases h194 : (((p2.toUInt32 >>> ((7 : Int32) &&& 31).toUInt32).toInt32) &&& (1 : Int32)) = 0
    · show own_Go p e below _ T22 (mkF m 194 #[.val (.long q1), .second, .val (.int p2), .val (.int p3), .val (.int p4), .val (.int p5), .val (.ref b1), .val (.long mm), .second, .val (.ref b21), .val (.int (Int32.ofNat n)), .val (.int (Int32.ofNat (20 - n))), .val (.int sm), .val (.int so), .unset, .unset, .unset, .unset, .unset, .unset, .unset, .unset, .unset, .unset, .unset, .unset, .unset, .unset, .unset, .unset, .unset] [(.int (((p2.toUInt32 >>> ((7 : Int32) &&& 31).toUInt32).toInt32) &&& (1 : Int32)))])
      refine own_go (fun t_ k_ => XS.ifYes X22.here hx rfl (pc0 := 194) (pc' := 201) rfl (hb hby at_194) rfl (XT.i0_eq_t h194) (by decide) (by decide) k_) ?_
      show own_Go p e below _ T22 (mkF m 201 #[.val (.long q1), .second, .val (.int p2), .val (.int p3), .val (.int p4), .val (.int p5), .val (.ref b1), .val (.long mm), .second, .val (.ref b21), .val (.int (Int32.ofNat n)), .val (.int (Int32.ofNat (20 - n))), .val (.int sm), .val (.int so), .unset, .unset, .unset, .unset, .unset, .unset, .unset, .unset, .unset, .unset, .unset, .unset, .unset, .unset, .unset, .unset, .unset] [])
      refine own_go (fun t_ k_ => XS.iconst X22.here hx rfl (hb hby at_201) k_) ?_
      show own_Go p e below _ T22 (mkF m 202 #[.val (.long q1), .second, .val (.int p2), .val (.int p3), .val (.int p4), .val (.int p5), .val (.ref b1), .val (.long mm), .second, .val (.ref b21), .val (.int (Int32.ofNat n)), .val (.int (Int32.ofNat (20 - n))), .val (.int sm), .val (.int so), .unset, .unset, .unset, .unset, .unset, .unset, .unset, .unset, .unset, .unset, .unset, .unset, .unset, .unset, .unset, .unset, .unset] [(.int (0 : Int32))])
      exact jn194 _ (fun _ => rfl) (fun q => absurd h194 q)
    · show own_Go p e below _ T22 (mkF m 194 #[.val (.long q1), .second, .val (.int p2), .val (.int p3), .val (.int p4), .val (.int p5), .val (.ref b1), .val (.long mm), .second, .val (.ref b21), .val (.int (Int32.ofNat n)), .val (.int (Int32.ofNat (20 - n))), .val (.int sm), .val (.int so), .unset, .unset, .unset, .unset, .unset, .unset, .unset, .unset, .unset, .unset, .unset, .unset, .unset, .unset, .unset, .unset, .unset] [(.int (((p2.toUInt32 >>> ((7 : Int32) &&& 31).toUInt32).toInt32) &&& (1 : Int32)))])
      refine own_go (fun t_ k_ => XS.ifNo X22.here hx rfl (hb hby at_194) rfl (XT.i0_eq_f h194) k_) ?_
      show own_Go p e below _ T22 (mkF m 197 #[.val (.long q1), .second, .val (.int p2), .val (.int p3), .val (.int p4), .val (.int p5), .val (.ref b1), .val (.long mm), .second, .val (.ref b21), .val (.int (Int32.ofNat n)), .val (.int (Int32.ofNat (20 - n))), .val (.int sm), .val (.int so), .unset, .unset, .unset, .unset, .unset, .unset, .unset, .unset, .unset, .unset, .unset, .unset, .unset, .unset, .unset, .unset, .unset] [])
      refine own_go (fun t_ k_ => XS.iconst X22.here hx rfl (hb hby at_197) k_) ?_
      show own_Go p e below _ T22 (mkF m 198 #[.val (.long q1), .second, .val (.int p2), .val (.int p3), .val (.int p4), .val (.int p5), .val (.ref b1), .val (.long mm), .second, .val (.ref b21), .val (.int (Int32.ofNat n)), .val (.int (Int32.ofNat (20 - n))), .val (.int sm), .val (.int so), .unset, .unset, .unset, .unset, .unset, .unset, .unset, .unset, .unset, .unset, .unset, .unset, .unset, .unset, .unset, .unset, .unset] [(.int (1 : Int32))])
      refine own_go (fun t_ k_ => XS.goto X22.here hx rfl (pc0 := 198) (pc' := 202) rfl (hb hby at_198) (by decide) (by decide) k_) ?_
      show own_Go p e below _ T22 (mkF m 202 #[.val (.long q1), .second, .val (.int p2), .val (.int p3), .val (.int p4), .val (.int p5), .val (.ref b1), .val (.long mm), .second, .val (.ref b21), .val (.int (Int32.ofNat n)), .val (.int (Int32.ofNat (20 - n))), .val (.int sm), .val (.int so), .unset, .unset, .unset, .unset, .unset, .unset, .unset, .unset, .unset, .unset, .unset, .unset, .unset, .unset, .unset, .unset, .unset] [(.int (1 : Int32))])
      exact jn194 _ (fun q => absurd q h194) (fun _ => rfl)
  by_cases h178 : sm = 0
  · show own_Go p e below _ T22 (mkF m 178 #[.val (.long q1), .second, .val (.int p2), .val (.int p3), .val (.int p4), .val (.int p5), .val (.ref b1), .val (.long mm), .second, .val (.ref b21), .val (.int (Int32.ofNat n)), .val (.int (Int32.ofNat (20 - n))), .val (.int sm), .unset, .unset, .unset, .unset, .unset, .unset, .unset, .unset, .unset, .unset, .unset, .unset, .unset, .unset, .unset, .unset, .unset, .unset] [(.int sm)])
    refine own_go (fun t_ k_ => XS.ifYes X22.here hx rfl (pc0 := 178) (pc' := 185) rfl (hb hby at_178) rfl (XT.i0_eq_t h178) (by decide) (by decide) k_) ?_
    show own_Go p e below _ T22 (mkF m 185 #[.val (.long q1), .second, .val (.int p2), .val (.int p3), .val (.int p4), .val (.int p5), .val (.ref b1), .val (.long mm), .second, .val (.ref b21), .val (.int (Int32.ofNat n)), .val (.int (Int32.ofNat (20 - n))), .val (.int sm), .unset, .unset, .unset, .unset, .unset, .unset, .unset, .unset, .unset, .unset, .unset, .unset, .unset, .unset, .unset, .unset, .unset, .unset] [])
    refine own_go (fun t_ k_ => XS.iconst X22.here hx rfl (hb hby at_185) k_) ?_
    show own_Go p e below _ T22 (mkF m 186 #[.val (.long q1), .second, .val (.int p2), .val (.int p3), .val (.int p4), .val (.int p5), .val (.ref b1), .val (.long mm), .second, .val (.ref b21), .val (.int (Int32.ofNat n)), .val (.int (Int32.ofNat (20 - n))), .val (.int sm), .unset, .unset, .unset, .unset, .unset, .unset, .unset, .unset, .unset, .unset, .unset, .unset, .unset, .unset, .unset, .unset, .unset, .unset] [(.int (0 : Int32))])
    exact jn178 _ (fun _ => rfl) (fun q => absurd h178 q)
  · show own_Go p e below _ T22 (mkF m 178 #[.val (.long q1), .second, .val (.int p2), .val (.int p3), .val (.int p4), .val (.int p5), .val (.ref b1), .val (.long mm), .second, .val (.ref b21), .val (.int (Int32.ofNat n)), .val (.int (Int32.ofNat (20 - n))), .val (.int sm), .unset, .unset, .unset, .unset, .unset, .unset, .unset, .unset, .unset, .unset, .unset, .unset, .unset, .unset, .unset, .unset, .unset, .unset] [(.int sm)])
    refine own_go (fun t_ k_ => XS.ifNo X22.here hx rfl (hb hby at_178) rfl (XT.i0_eq_f h178) k_) ?_
    show own_Go p e below _ T22 (mkF m 181 #[.val (.long q1), .second, .val (.int p2), .val (.int p3), .val (.int p4), .val (.int p5), .val (.ref b1), .val (.long mm), .second, .val (.ref b21), .val (.int (Int32.ofNat n)), .val (.int (Int32.ofNat (20 - n))), .val (.int sm), .unset, .unset, .unset, .unset, .unset, .unset, .unset, .unset, .unset, .unset, .unset, .unset, .unset, .unset, .unset, .unset, .unset, .unset] [])
    refine own_go (fun t_ k_ => XS.iconst X22.here hx rfl (hb hby at_181) k_) ?_
    show own_Go p e below _ T22 (mkF m 182 #[.val (.long q1), .second, .val (.int p2), .val (.int p3), .val (.int p4), .val (.int p5), .val (.ref b1), .val (.long mm), .second, .val (.ref b21), .val (.int (Int32.ofNat n)), .val (.int (Int32.ofNat (20 - n))), .val (.int sm), .unset, .unset, .unset, .unset, .unset, .unset, .unset, .unset, .unset, .unset, .unset, .unset, .unset, .unset, .unset, .unset, .unset, .unset] [(.int (1 : Int32))])
    refine own_go (fun t_ k_ => XS.goto X22.here hx rfl (pc0 := 182) (pc' := 186) rfl (hb hby at_182) (by decide) (by decide) k_) ?_
    show own_Go p e below _ T22 (mkF m 186 #[.val (.long q1), .second, .val (.int p2), .val (.int p3), .val (.int p4), .val (.int p5), .val (.ref b1), .val (.long mm), .second, .val (.ref b21), .val (.int (Int32.ofNat n)), .val (.int (Int32.ofNat (20 - n))), .val (.int sm), .unset, .unset, .unset, .unset, .unset, .unset, .unset, .unset, .unset, .unset, .unset, .unset, .unset, .unset, .unset, .unset, .unset, .unset] [(.int (1 : Int32))])
    exact jn178 _ (fun q => absurd q h178) (fun _ => rfl)
set_option maxRecDepth 65536 in
set_option maxHeartbeats 40000000 in
theorem comes_1 {Post : Tables → Env → Array Value → State → Outcome → State → Prop} (hpost : ∀ tb e args s v u, (limb_1_1.after args s (.returned v) u = true ∧ limb_1_2.after args s (.returned v) u = true ∧ True) → FrameEnd s (.returned v) u (Jvm.fieldLocs frame_1_writes args s ++ Jvm.arrayLocs frame_1_arrays args s ++ Jvm.staticLocs frame_1_statics s) 16 192 → Post tb e args s (.returned v) u) :
    ArmFor flags0 classFile x code maxLocals ret World_1 tables_1 room_1 Calls_1 rest_1 Pre_1 Post := by
  intro l hfl _ _ p e ha hc hk s m args below hf hA hF happ hP
  obtain ⟨hcalls, hrest, hpre⟩ := hP
  obtain ⟨-, -, -, hnamed, -, -, -, hat⟩ := (Spec.applies_iff hf).mp happ
  obtain ⟨hg, hn⟩ := and_e (Cond.before_iff.mp (show (Jvm.Cond.and given_1 narrow_1).before args s = true from hpre))
  obtain ⟨g1, g2⟩ := and_e hg
  obtain ⟨g3, g4⟩ := and_e g2
  obtain ⟨g5, g6⟩ := and_e g4
  obtain ⟨g7, g8⟩ := and_e g6
  obtain ⟨g9, g10⟩ := and_e g8
  obtain ⟨w0, w1, w2, w3, w4, rfl⟩ : ∃ w0 w1 w2 w3 w4 : Value, args = #[w0, w1, w2, w3, w4] := by
    have hs : args.size = 5 := by simpa [Cond.value, given_1] using g1
    obtain ⟨L⟩ := args
    match L, hs with
    | [w0, w1, w2, w3, w4], _ => exact ⟨w0, w1, w2, w3, w4, rfl⟩
  have hw := fun d (hd : d ∈ tables_1) => atoms_spec (ws := Jvm.Cond.code x code maxLocals ret :: tables_1) hat d (List.mem_cons_of_mem _ hd)
  have hfit : Fit s := fun {y c} hc i hi => by
    obtain ⟨ha, rfl⟩ := Array.getElem?_eq_some_iff.mp hc
    have q := List.all_eq_true.mp ((Array.all_eq_true_iff_forall_mem.mp hF) _ (Array.getElem_mem ha)) i (List.mem_range.mpr hi)
    simpa [Array.getElem?_eq_getElem hi] using q
  obtain ⟨i0, ei0⟩ := isL_v g3
  obtain rfl : w0 = (.long i0) := Option.some.inj ei0
  obtain ⟨i1, ei1⟩ := is_v g5
  obtain rfl : w1 = (.int i1) := Option.some.inj ei1
  obtain ⟨i2, ei2⟩ := is_v g7
  obtain rfl : w2 = (.int i2) := Option.some.inj ei2
  obtain ⟨i3, ei3⟩ := is_v g9
  obtain rfl : w3 = (.int i3) := Option.some.inj ei3
  obtain ⟨i4, ei4⟩ := is_v g10
  obtain rfl : w4 = (.int i4) := Option.some.inj ei4
  obtain ⟨hsets, hown0⟩ := atoms_of _ (rest_1_c_eq ▸ (show rest_1_c.before _ s = true from hrest))
  have z2 := Cond.before_iff.mp (own_w hsets 2 rfl)
  have z4 := Cond.before_iff.mp (own_w hsets 4 rfl)
  have z5 := Cond.before_iff.mp (own_w hsets 5 rfl)
  obtain ⟨ac, evc⟩ := arr_v z2
  obtain ⟨cc, A_C⟩ := Arr.start evc z2
  have S_C := Sta.start evc (Or.inl (own_w hsets 1 rfl))
  obtain ⟨hl1, hl2⟩ := own_lenOf evc A_C (own_eqI z4)
  have hs_C : cc.slots.size = 256 := own_size hl1 hl2
  have he_C := own_cacheEl evc A_C z5 hs_C
  obtain ⟨n, o, h1, h2, h3, _, L, rfl, ⟨rfl, N⟩, hq⟩ := rm0 l s _ hw tables_1 i0 i1 i2 i3 i4 ac cc s.heap s.heap.size (Nat.le_refl _) (Old.start s) S_C A_C hs_C he_C p e ha hc hk s m _ below hf ((Spec.applies_iff_loose hf).mp happ).1 ⟨rfl, State.Warmed39.refl s, rfl⟩ trivial
  refine ⟨n, _, h1, h2, h3, hpost _ _ _ _ _ _ ⟨Cond.after_iff.mpr rfl, Cond.after_iff.mpr (eq_i res_at (Term.int_eval (1)) rfl), trivial⟩ ⟨hq.1, hq.2.1, (hq.2.2.sift fun y hy => Or.inr (N y hy)).mono (by decide) (by decide)⟩⟩
theorem main_1_1 : Claimed_1_1 := comes_1 fun _ _ _ _ _ _ h hF => ⟨h.1, hF⟩
theorem main_1_2 : Claimed_1_2 := comes_1 fun _ _ _ _ _ _ h hF => ⟨h.2.1, hF⟩
end Jvm.Pilot.@@N@@
namespace Jvm.Pilot.@@N@@
open Jvm Jvm.ClassFile Sem Op Lib Jvm.Free Jvm.Stand Jvm.Pilot.@@N@@.Jvm.D
/-! MADE BY PROGRAM (witnessworld.py) out of the Statement's table words and the real class files: 18 classes; the members and pool entries that the words name. The judged class is class 1, her method 1. -/
namespace start1
open Jvm.ClassFile
def u (s : String) : CpInfo := .utf8 (stringToUtf16 s)
/-- a pool by its gaps: so many unusable entries, then the entry; so many at the end -/
def gap : Nat → List CpInfo → List CpInfo
  | 0, r => r
  | n + 1, r => .unusable :: gap n r
def poolList (es : List (Nat × CpInfo)) (last : Nat) : List CpInfo := es.foldr (fun e r => gap e.1 (e.2 :: r)) (gap last [])
def pool (es : List (Nat × CpInfo)) (last : Nat) : Array CpInfo := ⟨poolList es last⟩
def fileOf (pool : Array CpInfo) (this : Nat) (attrs : Array Attribute := #[]) (ms : Array MethodInfo := #[]) (fl : Nat := 33) (sup : Nat := 0) (ifs : Array Nat := #[]) (fds : Array FieldInfo := #[]) : ClassFile where
  minorVersion := 0
  majorVersion := 65
  constantPool := pool
  accessFlags := fl
  thisClass := this
  superClass := sup
  interfaces := ifs
  fields := fds
  methods := ms
  attributes := attrs
def plain (name : String) (sup : Option ClassId) : Class where
  name := name
  kind := .ordinary
  loader := none
  accessFlags := 33
  super := sup
  interfaces := #[]
  cf := none
  fields := #[]
  methods := #[]
  instanceTypes := #[]
  staticTypes := #[]
  resolved := #[]
  callSites := []
  init := .initialized
  statics := none
  mirror := none

def pool0 : Array CpInfo := pool [(5, u "<init>"), (0, u "()V"), (1, .class_ 10), (1, u "java/lang/Object")] 113

def k0c0 : Code := { maxStack := 0, maxLocals := 1, code := object_method_1_code, exceptionTable := #[], attributes := #[] }
def k0m0 : Method := { name := "<init>", desc := "()V", sig := { parameters := [], returnType := none }, accessFlags := 1, code := some k0c0 }
/-- java/lang/Object -/
def k0 : Class := { plain "java/lang/Object" none with
  accessFlags := 33
  interfaces := #[]
  cf := some (fileOf pool0 8 #[] #[{ accessFlags := 1, nameIndex := 5, descriptorIndex := 6, attributes := #[] }] 33 0 #[] #[])
  fields := #[]
  methods := #[k0m0]
  instanceTypes := #[]
  staticTypes := #[]
  resolved := Array.replicate 124 none
  statics := none }

def pool1 : Array CpInfo := pool [(2, .class_ 4), (1, u "java/lang/Object"), (0, u "<init>"), (0, u "()V"), (0, .long 10), (1, .long 100), (1, .long 1000), (1, .long 10000), (1, .long 100000), (1, .long 1000000), (1, .long 10000000), (1, .long 100000000), (1, .long 1000000000), (1, .long 10000000000), (1, .long 100000000000), (1, .long 1000000000000), (1, .long 10000000000000), (1, .long 100000000000000), (1, .long 1000000000000000), (1, .long 10000000000000000), (1, .long 100000000000000000), (1, .long 1000000000000000000), (1, .class_ 44), (0, u "java/lang/Long"), (0, .long 9223372036854775807), (1, .methodref 48 49), (0, .class_ 50), (0, .nameAndType 51 52), (0, u "com/example/gridtally/gridtally/core/DecimalsIntegerPinLaw"), (0, u "put"), (0, u "([BJ[J)V"), (0, .methodref 54 55), (0, .class_ 56), (0, .nameAndType 57 58), (0, u "com/example/gridtally/gridtally/core/Decimals"), (0, u "integer"), (0, u "([BII)Ljava/lang/Long;"), (0, .methodref 48 60), (0, .nameAndType 61 62), (0, u "isDigit"), (0, u "(B)Z"), (0, .methodref 43 64), (0, .nameAndType 65 66), (0, u "longValue"), (0, u "()J"), (0, .long 48), (1, .methodref 48 70), (0, .nameAndType 71 72), (0, u "dig"), (0, u "(JJ)B"), (2, u "law"), (0, u "(JIIII)Z")] 7

def k1m0 : Method := { name := "<init>", desc := "()V", sig := { parameters := [], returnType := none }, accessFlags := 1, code := none }
def k1c1 : Code := { maxStack := 8, maxLocals := 31, code := code, exceptionTable := #[], attributes := #[] }
def k1m1 : Method := { name := "law", desc := "(JIIII)Z", sig := { parameters := [.long, .int, .int, .int, .int], returnType := some .boolean }, accessFlags := 9, code := some k1c1 }
def k1c2 : Code := { maxStack := 2, maxLocals := 1, code := method_3_code, exceptionTable := #[], attributes := #[] }
def k1m2 : Method := { name := "isDigit", desc := "(B)Z", sig := { parameters := [.byte], returnType := some .boolean }, accessFlags := 10, code := some k1c2 }
def k1c3 : Code := { maxStack := 6, maxLocals := 4, code := method_4_code, exceptionTable := #[], attributes := #[] }
def k1m3 : Method := { name := "dig", desc := "(JJ)B", sig := { parameters := [.long, .long], returnType := some .byte }, accessFlags := 10, code := some k1c3 }
def k1c4 : Code := { maxStack := 6, maxLocals := 4, code := method_5_code, exceptionTable := #[], attributes := #[] }
def k1m4 : Method := { name := "put", desc := "([BJ[J)V", sig := { parameters := [(.array .byte), .long, (.array .long)], returnType := none }, accessFlags := 10, code := some k1c4 }
/-- com/example/gridtally/gridtally/core/DecimalsIntegerPinLaw -/
def k1 : Class := { plain "com/example/gridtally/gridtally/core/DecimalsIntegerPinLaw" (some 0) with
  accessFlags := 49
  interfaces := #[]
  cf := some (fileOf pool1 48 #[] #[{ accessFlags := 1, nameIndex := 5, descriptorIndex := 6, attributes := #[] }, { accessFlags := 9, nameIndex := 75, descriptorIndex := 76, attributes := #[] }, { accessFlags := 10, nameIndex := 61, descriptorIndex := 62, attributes := #[] }, { accessFlags := 10, nameIndex := 71, descriptorIndex := 72, attributes := #[] }, { accessFlags := 10, nameIndex := 51, descriptorIndex := 52, attributes := #[] }] 49 2 #[] #[])
  fields := #[]
  methods := #[k1m0, k1m1, k1m2, k1m3, k1m4]
  instanceTypes := #[]
  staticTypes := #[]
  resolved := Array.replicate 84 none
  statics := none }

def pool2 : Array CpInfo := pool [(2, .class_ 4), (1, u "java/lang/Object"), (0, u "<init>"), (0, u "()V"), (13, .class_ 22), (1, u "com/example/gridtally/gridtally/core/Decimals"), (11, .methodref 20 35), (0, .nameAndType 36 37), (0, u "scale"), (0, u "([BII)I"), (7, .methodref 20 46), (0, .nameAndType 47 48), (0, u "digits"), (0, u "([BII)J"), (2, u "valueOf"), (10, .methodref 63 64), (0, .class_ 65), (0, .nameAndType 51 66), (0, u "java/lang/Long"), (0, u "(J)Ljava/lang/Long;"), (0, .methodref 20 68), (0, .nameAndType 69 70), (0, u "isDigit"), (0, u "(B)Z"), (0, .long 10), (4, u "LONG_DIGITS"), (0, u "I"), (2, u "NOT_PLAIN"), (1, u "TOO_LONG"), (9, u "integer"), (0, u "([BII)Ljava/lang/Long;")] 17

def k2m0 : Method := { name := "<init>", desc := "()V", sig := { parameters := [], returnType := none }, accessFlags := 2, code := none }
def k2c1 : Code := { maxStack := 3, maxLocals := 3, code := prog_20_method_5_code, exceptionTable := #[], attributes := #[] }
def k2m1 : Method := { name := "integer", desc := "([BII)Ljava/lang/Long;", sig := { parameters := [(.array .byte), .int, .int], returnType := some (.object "java/lang/Long") }, accessFlags := 8, code := some k2c1 }
def k2c2 : Code := { maxStack := 2, maxLocals := 8, code := prog_20_method_6_code, exceptionTable := #[], attributes := #[] }
def k2m2 : Method := { name := "scale", desc := "([BII)I", sig := { parameters := [(.array .byte), .int, .int], returnType := some .int }, accessFlags := 10, code := some k2c2 }
def k2c3 : Code := { maxStack := 4, maxLocals := 6, code := prog_20_method_7_code, exceptionTable := #[], attributes := #[] }
def k2m3 : Method := { name := "digits", desc := "([BII)J", sig := { parameters := [(.array .byte), .int, .int], returnType := some .long }, accessFlags := 10, code := some k2c3 }
def k2c4 : Code := { maxStack := 2, maxLocals := 1, code := prog_20_method_9_code, exceptionTable := #[], attributes := #[] }
def k2m4 : Method := { name := "isDigit", desc := "(B)Z", sig := { parameters := [.byte], returnType := some .boolean }, accessFlags := 10, code := some k2c4 }
/-- com/example/gridtally/gridtally/core/Decimals -/
def k2 : Class := { plain "com/example/gridtally/gridtally/core/Decimals" (some 0) with
  accessFlags := 49
  interfaces := #[]
  cf := some (fileOf pool2 20 #[] #[{ accessFlags := 2, nameIndex := 5, descriptorIndex := 6, attributes := #[] }, { accessFlags := 8, nameIndex := 92, descriptorIndex := 93, attributes := #[] }, { accessFlags := 10, nameIndex := 36, descriptorIndex := 37, attributes := #[] }, { accessFlags := 10, nameIndex := 47, descriptorIndex := 48, attributes := #[] }, { accessFlags := 10, nameIndex := 69, descriptorIndex := 70, attributes := #[] }] 49 2 #[] #[{ accessFlags := 26, nameIndex := 76, descriptorIndex := 77, attributes := #[] }, { accessFlags := 26, nameIndex := 80, descriptorIndex := 77, attributes := #[] }, { accessFlags := 26, nameIndex := 82, descriptorIndex := 77, attributes := #[] }])
  fields := #[{ name := "LONG_DIGITS", type := .int, accessFlags := 26, slot := 0, constantValue := 0 }, { name := "NOT_PLAIN", type := .int, accessFlags := 26, slot := 1, constantValue := 0 }, { name := "TOO_LONG", type := .int, accessFlags := 26, slot := 2, constantValue := 0 }]
  methods := #[k2m0, k2m1, k2m2, k2m3, k2m4]
  instanceTypes := #[]
  staticTypes := #[.int, .int, .int]
  resolved := Array.replicate 111 none
  statics := none }

def pool3 : Array CpInfo := pool [(1, .class_ 2), (0, u "java/io/Serializable"), (0, .class_ 4), (0, u "java/lang/Object")] 2

/-- java/io/Serializable -/
def k3 : Class := { plain "java/io/Serializable" (some 0) with
  accessFlags := 1537
  interfaces := #[]
  cf := some (fileOf pool3 1 #[] #[] 1537 3 #[] #[])
  fields := #[]
  methods := #[]
  instanceTypes := #[]
  staticTypes := #[]
  resolved := Array.replicate 7 none
  statics := none }

def pool4 : Array CpInfo := pool [(1, .methodref 2 3), (0, .class_ 4), (0, .nameAndType 5 6), (0, u "java/lang/Object"), (0, u "<init>"), (0, u "()V"), (1, .class_ 10), (1, u "java/lang/Number"), (2, .class_ 14), (0, u "java/io/Serializable"), (0, u "serialVersionUID"), (0, u "J")] 20

def k4c0 : Code := { maxStack := 1, maxLocals := 1, code := jdk_18_method_1_code, exceptionTable := #[], attributes := #[] }
def k4m0 : Method := { name := "<init>", desc := "()V", sig := { parameters := [], returnType := none }, accessFlags := 1, code := some k4c0 }
/-- java/lang/Number -/
def k4 : Class := { plain "java/lang/Number" (some 0) with
  accessFlags := 1057
  interfaces := #[3]
  cf := some (fileOf pool4 8 #[] #[{ accessFlags := 1, nameIndex := 5, descriptorIndex := 6, attributes := #[] }] 1057 2 #[13] #[{ accessFlags := 26, nameIndex := 15, descriptorIndex := 16, attributes := #[] }])
  fields := #[{ name := "serialVersionUID", type := .long, accessFlags := 26, slot := 0, constantValue := 0 }]
  methods := #[k4m0]
  instanceTypes := #[]
  staticTypes := #[.long]
  resolved := Array.replicate 37 none
  statics := none }

def pool5 : Array CpInfo := pool [(1, .class_ 2), (0, u "java/lang/Comparable"), (0, .class_ 4), (0, u "java/lang/Object")] 7

/-- java/lang/Comparable -/
def k5 : Class := { plain "java/lang/Comparable" (some 0) with
  accessFlags := 1537
  interfaces := #[]
  cf := some (fileOf pool5 1 #[] #[] 1537 3 #[] #[])
  fields := #[]
  methods := #[]
  instanceTypes := #[]
  staticTypes := #[]
  resolved := Array.replicate 12 none
  statics := none }

def pool6 : Array CpInfo := pool [(1, .class_ 2), (0, u "java/lang/constant/Constable"), (0, .class_ 4), (0, u "java/lang/Object")] 6

/-- java/lang/constant/Constable -/
def k6 : Class := { plain "java/lang/constant/Constable" (some 0) with
  accessFlags := 1537
  interfaces := #[]
  cf := some (fileOf pool6 1 #[] #[] 1537 3 #[] #[])
  fields := #[]
  methods := #[]
  instanceTypes := #[]
  staticTypes := #[]
  resolved := Array.replicate 11 none
  statics := none }

def pool7 : Array CpInfo := pool [(1, .class_ 2), (0, u "java/lang/constant/ConstantDesc"), (0, .class_ 4), (0, u "java/lang/Object")] 32

/-- java/lang/constant/ConstantDesc -/
def k7 : Class := { plain "java/lang/constant/ConstantDesc" (some 0) with
  accessFlags := 1537
  interfaces := #[]
  cf := some (fileOf pool7 1 #[] #[] 1537 3 #[] #[])
  fields := #[]
  methods := #[]
  instanceTypes := #[]
  staticTypes := #[]
  resolved := Array.replicate 37 none
  statics := none }

def pool8 : Array CpInfo := pool [(1, .class_ 2), (0, u "java/lang/Long"), (55, .nameAndType 59 60), (0, u "<init>"), (0, u "()V"), (24, u "valueOf"), (143, u "(J)Ljava/lang/Long;"), (0, .long 18446744073709551488), (1, .long 127), (1, .fieldref 235 236), (0, .class_ 237), (0, .nameAndType 238 239), (0, u "java/lang/Long$LongCache"), (0, u "cache"), (0, u "[Ljava/lang/Long;"), (0, .methodref 1 241), (0, .nameAndType 59 242), (0, u "(J)V"), (27, .methodref 271 58), (0, .class_ 272), (0, u "java/lang/Number"), (0, .fieldref 1 274), (0, .nameAndType 275 276), (0, u "value"), (0, u "J"), (5, u "longValue"), (0, u "()J"), (77, u "TYPE"), (0, u "Ljava/lang/Class;"), (0, .class_ 364), (0, u "java/lang/Comparable"), (0, .class_ 366), (0, u "java/lang/constant/Constable"), (0, .class_ 368), (0, u "java/lang/constant/ConstantDesc"), (0, u "MIN_VALUE"), (1, u "MAX_VALUE"), (4, u "SIZE"), (0, u "I"), (1, u "BYTES"), (1, u "serialVersionUID")] 142

def k8c0 : Code := { maxStack := 4, maxLocals := 3, code := jdk_35_method_24_code, exceptionTable := #[], attributes := #[] }
def k8m0 : Method := { name := "valueOf", desc := "(J)Ljava/lang/Long;", sig := { parameters := [.long], returnType := some (.object "java/lang/Long") }, accessFlags := 9, code := some k8c0 }
def k8c1 : Code := { maxStack := 3, maxLocals := 3, code := jdk_35_method_26_code, exceptionTable := #[], attributes := #[] }
def k8m1 : Method := { name := "<init>", desc := "(J)V", sig := { parameters := [.long], returnType := none }, accessFlags := 1, code := some k8c1 }
def k8c2 : Code := { maxStack := 2, maxLocals := 1, code := jdk_35_method_31_code, exceptionTable := #[], attributes := #[] }
def k8m2 : Method := { name := "longValue", desc := "()J", sig := { parameters := [], returnType := some .long }, accessFlags := 1, code := some k8c2 }
/-- java/lang/Long -/
def k8 : Class := { plain "java/lang/Long" (some 4) with
  accessFlags := 49
  interfaces := #[5, 6, 7]
  cf := some (fileOf pool8 1 #[.nestMembers #[235]] #[{ accessFlags := 9, nameIndex := 85, descriptorIndex := 229, attributes := #[] }, { accessFlags := 1, nameIndex := 59, descriptorIndex := 242, attributes := #[] }, { accessFlags := 1, nameIndex := 282, descriptorIndex := 283, attributes := #[] }] 49 271 #[363, 365, 367] #[{ accessFlags := 25, nameIndex := 369, descriptorIndex := 276, attributes := #[] }, { accessFlags := 25, nameIndex := 371, descriptorIndex := 276, attributes := #[] }, { accessFlags := 25, nameIndex := 361, descriptorIndex := 362, attributes := #[] }, { accessFlags := 18, nameIndex := 275, descriptorIndex := 276, attributes := #[] }, { accessFlags := 25, nameIndex := 376, descriptorIndex := 377, attributes := #[] }, { accessFlags := 25, nameIndex := 379, descriptorIndex := 377, attributes := #[] }, { accessFlags := 26, nameIndex := 381, descriptorIndex := 276, attributes := #[] }])
  fields := #[{ name := "MIN_VALUE", type := .long, accessFlags := 25, slot := 0, constantValue := 0 }, { name := "MAX_VALUE", type := .long, accessFlags := 25, slot := 1, constantValue := 0 }, { name := "TYPE", type := (.object "java/lang/Class"), accessFlags := 25, slot := 2, constantValue := 0 }, { name := "value", type := .long, accessFlags := 18, slot := 0, constantValue := 0 }, { name := "SIZE", type := .int, accessFlags := 25, slot := 3, constantValue := 0 }, { name := "BYTES", type := .int, accessFlags := 25, slot := 4, constantValue := 0 }, { name := "serialVersionUID", type := .long, accessFlags := 26, slot := 5, constantValue := 0 }]
  methods := #[k8m0, k8m1, k8m2]
  instanceTypes := #[.long]
  staticTypes := #[.long, .long, (.object "java/lang/Class"), .int, .int, .long]
  resolved := Array.replicate 524 none
  statics := none }

def pool9 : Array CpInfo := pool [(2, .class_ 4), (1, u "java/lang/Object"), (0, u "<init>"), (0, u "()V"), (0, .class_ 8), (0, u "java/lang/Long"), (7, .class_ 18), (1, u "java/lang/Long$LongCache"), (0, u "$assertionsDisabled"), (0, u "Z"), (8, u "archivedCache"), (0, u "[Ljava/lang/Long;"), (7, u "cache")] 24

def k9m0 : Method := { name := "<init>", desc := "()V", sig := { parameters := [], returnType := none }, accessFlags := 2, code := none }
/-- java/lang/Long$LongCache -/
def k9 : Class := { plain "java/lang/Long$LongCache" (some 0) with
  accessFlags := 48
  interfaces := #[]
  cf := some (fileOf pool9 16 #[.nestHost 7] #[{ accessFlags := 2, nameIndex := 5, descriptorIndex := 6, attributes := #[] }] 48 2 #[] #[{ accessFlags := 24, nameIndex := 38, descriptorIndex := 30, attributes := #[] }, { accessFlags := 8, nameIndex := 29, descriptorIndex := 30, attributes := #[] }, { accessFlags := 4120, nameIndex := 19, descriptorIndex := 20, attributes := #[] }])
  fields := #[{ name := "cache", type := (.array (.object "java/lang/Long")), accessFlags := 24, slot := 0, constantValue := 0 }, { name := "archivedCache", type := (.array (.object "java/lang/Long")), accessFlags := 8, slot := 1, constantValue := 0 }, { name := "$assertionsDisabled", type := .boolean, accessFlags := 4120, slot := 2, constantValue := 0 }]
  methods := #[k9m0]
  instanceTypes := #[]
  staticTypes := #[(.array (.object "java/lang/Long")), (.array (.object "java/lang/Long")), .boolean]
  resolved := Array.replicate 63 none
  statics := some 0 }

def pool10 : Array CpInfo := pool [(1, u "java/lang/Cloneable"), (0, .class_ 1), (0, u "java/lang/Object"), (0, .class_ 3)] 3

/-- java/lang/Cloneable -/
def k10 : Class := { plain "java/lang/Cloneable" (some 0) with
  accessFlags := 1537
  interfaces := #[]
  cf := some (fileOf pool10 2 #[] #[] 1537 4 #[] #[])
  fields := #[]
  methods := #[]
  instanceTypes := #[]
  staticTypes := #[]
  resolved := Array.replicate 8 none
  statics := none }

/-- the primitive byte -/
def k11 : Class := { plain "byte" none with kind := .primitive 'B', accessFlags := 0x411 }
/-- [B -/
def k12 : Class := { plain "[B" (some 0) with kind := .array 11 .byte, interfaces := #[10, 3], accessFlags := 1041 }

/-- the primitive int -/
def k13 : Class := { plain "int" none with kind := .primitive 'I', accessFlags := 0x411 }
/-- [I -/
def k14 : Class := { plain "[I" (some 0) with kind := .array 13 .int, interfaces := #[10, 3], accessFlags := 1041 }

/-- the primitive long -/
def k15 : Class := { plain "long" none with kind := .primitive 'J', accessFlags := 0x411 }
/-- [J -/
def k16 : Class := { plain "[J" (some 0) with kind := .array 15 .long, interfaces := #[10, 3], accessFlags := 1041 }

/-- [Ljava/lang/Long; -/
def k17 : Class := { plain "[Ljava/lang/Long;" (some 0) with kind := .array 8 (.object "java/lang/Long"), interfaces := #[10, 3], accessFlags := 1041 }

def heap : Heap := #[{ cls := 9, slots := #[.ref 1, .null, .int 0], vm := .statics 9 },
  { cls := 17, slots := #[.ref 2, .ref 3, .ref 4, .ref 5, .ref 6, .ref 7, .ref 8, .ref 9, .ref 10, .ref 11, .ref 12, .ref 13, .ref 14, .ref 15, .ref 16, .ref 17, .ref 18, .ref 19, .ref 20, .ref 21, .ref 22, .ref 23, .ref 24, .ref 25, .ref 26, .ref 27, .ref 28, .ref 29, .ref 30, .ref 31, .ref 32, .ref 33, .ref 34, .ref 35, .ref 36, .ref 37, .ref 38, .ref 39, .ref 40, .ref 41, .ref 42, .ref 43, .ref 44, .ref 45, .ref 46, .ref 47, .ref 48, .ref 49, .ref 50, .ref 51, .ref 52, .ref 53, .ref 54, .ref 55, .ref 56, .ref 57, .ref 58, .ref 59, .ref 60, .ref 61, .ref 62, .ref 63, .ref 64, .ref 65, .ref 66, .ref 67, .ref 68, .ref 69, .ref 70, .ref 71, .ref 72, .ref 73, .ref 74, .ref 75, .ref 76, .ref 77, .ref 78, .ref 79, .ref 80, .ref 81, .ref 82, .ref 83, .ref 84, .ref 85, .ref 86, .ref 87, .ref 88, .ref 89, .ref 90, .ref 91, .ref 92, .ref 93, .ref 94, .ref 95, .ref 96, .ref 97, .ref 98, .ref 99, .ref 100, .ref 101, .ref 102, .ref 103, .ref 104, .ref 105, .ref 106, .ref 107, .ref 108, .ref 109, .ref 110, .ref 111, .ref 112, .ref 113, .ref 114, .ref 115, .ref 116, .ref 117, .ref 118, .ref 119, .ref 120, .ref 121, .ref 122, .ref 123, .ref 124, .ref 125, .ref 126, .ref 127, .ref 128, .ref 129, .ref 130, .ref 131, .ref 132, .ref 133, .ref 134, .ref 135, .ref 136, .ref 137, .ref 138, .ref 139, .ref 140, .ref 141, .ref 142, .ref 143, .ref 144, .ref 145, .ref 146, .ref 147, .ref 148, .ref 149, .ref 150, .ref 151, .ref 152, .ref 153, .ref 154, .ref 155, .ref 156, .ref 157, .ref 158, .ref 159, .ref 160, .ref 161, .ref 162, .ref 163, .ref 164, .ref 165, .ref 166, .ref 167, .ref 168, .ref 169, .ref 170, .ref 171, .ref 172, .ref 173, .ref 174, .ref 175, .ref 176, .ref 177, .ref 178, .ref 179, .ref 180, .ref 181, .ref 182, .ref 183, .ref 184, .ref 185, .ref 186, .ref 187, .ref 188, .ref 189, .ref 190, .ref 191, .ref 192, .ref 193, .ref 194, .ref 195, .ref 196, .ref 197, .ref 198, .ref 199, .ref 200, .ref 201, .ref 202, .ref 203, .ref 204, .ref 205, .ref 206, .ref 207, .ref 208, .ref 209, .ref 210, .ref 211, .ref 212, .ref 213, .ref 214, .ref 215, .ref 216, .ref 217, .ref 218, .ref 219, .ref 220, .ref 221, .ref 222, .ref 223, .ref 224, .ref 225, .ref 226, .ref 227, .ref 228, .ref 229, .ref 230, .ref 231, .ref 232, .ref 233, .ref 234, .ref 235, .ref 236, .ref 237, .ref 238, .ref 239, .ref 240, .ref 241, .ref 242, .ref 243, .ref 244, .ref 245, .ref 246, .ref 247, .ref 248, .ref 249, .ref 250, .ref 251, .ref 252, .ref 253, .ref 254, .ref 255, .ref 256, .ref 257], vm := .none },
  { cls := 8, slots := #[.long (-128)], vm := .none },
  { cls := 8, slots := #[.long (-127)], vm := .none },
  { cls := 8, slots := #[.long (-126)], vm := .none },
  { cls := 8, slots := #[.long (-125)], vm := .none },
  { cls := 8, slots := #[.long (-124)], vm := .none },
  { cls := 8, slots := #[.long (-123)], vm := .none },
  { cls := 8, slots := #[.long (-122)], vm := .none },
  { cls := 8, slots := #[.long (-121)], vm := .none },
  { cls := 8, slots := #[.long (-120)], vm := .none },
  { cls := 8, slots := #[.long (-119)], vm := .none },
  { cls := 8, slots := #[.long (-118)], vm := .none },
  { cls := 8, slots := #[.long (-117)], vm := .none },
  { cls := 8, slots := #[.long (-116)], vm := .none },
  { cls := 8, slots := #[.long (-115)], vm := .none },
  { cls := 8, slots := #[.long (-114)], vm := .none },
  { cls := 8, slots := #[.long (-113)], vm := .none },
  { cls := 8, slots := #[.long (-112)], vm := .none },
  { cls := 8, slots := #[.long (-111)], vm := .none },
  { cls := 8, slots := #[.long (-110)], vm := .none },
  { cls := 8, slots := #[.long (-109)], vm := .none },
  { cls := 8, slots := #[.long (-108)], vm := .none },
  { cls := 8, slots := #[.long (-107)], vm := .none },
  { cls := 8, slots := #[.long (-106)], vm := .none },
  { cls := 8, slots := #[.long (-105)], vm := .none },
  { cls := 8, slots := #[.long (-104)], vm := .none },
  { cls := 8, slots := #[.long (-103)], vm := .none },
  { cls := 8, slots := #[.long (-102)], vm := .none },
  { cls := 8, slots := #[.long (-101)], vm := .none },
  { cls := 8, slots := #[.long (-100)], vm := .none },
  { cls := 8, slots := #[.long (-99)], vm := .none },
  { cls := 8, slots := #[.long (-98)], vm := .none },
  { cls := 8, slots := #[.long (-97)], vm := .none },
  { cls := 8, slots := #[.long (-96)], vm := .none },
  { cls := 8, slots := #[.long (-95)], vm := .none },
  { cls := 8, slots := #[.long (-94)], vm := .none },
  { cls := 8, slots := #[.long (-93)], vm := .none },
  { cls := 8, slots := #[.long (-92)], vm := .none },
  { cls := 8, slots := #[.long (-91)], vm := .none },
  { cls := 8, slots := #[.long (-90)], vm := .none },
  { cls := 8, slots := #[.long (-89)], vm := .none },
  { cls := 8, slots := #[.long (-88)], vm := .none },
  { cls := 8, slots := #[.long (-87)], vm := .none },
  { cls := 8, slots := #[.long (-86)], vm := .none },
  { cls := 8, slots := #[.long (-85)], vm := .none },
  { cls := 8, slots := #[.long (-84)], vm := .none },
  { cls := 8, slots := #[.long (-83)], vm := .none },
  { cls := 8, slots := #[.long (-82)], vm := .none },
  { cls := 8, slots := #[.long (-81)], vm := .none },
  { cls := 8, slots := #[.long (-80)], vm := .none },
  { cls := 8, slots := #[.long (-79)], vm := .none },
  { cls := 8, slots := #[.long (-78)], vm := .none },
  { cls := 8, slots := #[.long (-77)], vm := .none },
  { cls := 8, slots := #[.long (-76)], vm := .none },
  { cls := 8, slots := #[.long (-75)], vm := .none },
  { cls := 8, slots := #[.long (-74)], vm := .none },
  { cls := 8, slots := #[.long (-73)], vm := .none },
  { cls := 8, slots := #[.long (-72)], vm := .none },
  { cls := 8, slots := #[.long (-71)], vm := .none },
  { cls := 8, slots := #[.long (-70)], vm := .none },
  { cls := 8, slots := #[.long (-69)], vm := .none },
  { cls := 8, slots := #[.long (-68)], vm := .none },
  { cls := 8, slots := #[.long (-67)], vm := .none },
  { cls := 8, slots := #[.long (-66)], vm := .none },
  { cls := 8, slots := #[.long (-65)], vm := .none },
  { cls := 8, slots := #[.long (-64)], vm := .none },
  { cls := 8, slots := #[.long (-63)], vm := .none },
  { cls := 8, slots := #[.long (-62)], vm := .none },
  { cls := 8, slots := #[.long (-61)], vm := .none },
  { cls := 8, slots := #[.long (-60)], vm := .none },
  { cls := 8, slots := #[.long (-59)], vm := .none },
  { cls := 8, slots := #[.long (-58)], vm := .none },
  { cls := 8, slots := #[.long (-57)], vm := .none },
  { cls := 8, slots := #[.long (-56)], vm := .none },
  { cls := 8, slots := #[.long (-55)], vm := .none },
  { cls := 8, slots := #[.long (-54)], vm := .none },
  { cls := 8, slots := #[.long (-53)], vm := .none },
  { cls := 8, slots := #[.long (-52)], vm := .none },
  { cls := 8, slots := #[.long (-51)], vm := .none },
  { cls := 8, slots := #[.long (-50)], vm := .none },
  { cls := 8, slots := #[.long (-49)], vm := .none },
  { cls := 8, slots := #[.long (-48)], vm := .none },
  { cls := 8, slots := #[.long (-47)], vm := .none },
  { cls := 8, slots := #[.long (-46)], vm := .none },
  { cls := 8, slots := #[.long (-45)], vm := .none },
  { cls := 8, slots := #[.long (-44)], vm := .none },
  { cls := 8, slots := #[.long (-43)], vm := .none },
  { cls := 8, slots := #[.long (-42)], vm := .none },
  { cls := 8, slots := #[.long (-41)], vm := .none },
  { cls := 8, slots := #[.long (-40)], vm := .none },
  { cls := 8, slots := #[.long (-39)], vm := .none },
  { cls := 8, slots := #[.long (-38)], vm := .none },
  { cls := 8, slots := #[.long (-37)], vm := .none },
  { cls := 8, slots := #[.long (-36)], vm := .none },
  { cls := 8, slots := #[.long (-35)], vm := .none },
  { cls := 8, slots := #[.long (-34)], vm := .none },
  { cls := 8, slots := #[.long (-33)], vm := .none },
  { cls := 8, slots := #[.long (-32)], vm := .none },
  { cls := 8, slots := #[.long (-31)], vm := .none },
  { cls := 8, slots := #[.long (-30)], vm := .none },
  { cls := 8, slots := #[.long (-29)], vm := .none },
  { cls := 8, slots := #[.long (-28)], vm := .none },
  { cls := 8, slots := #[.long (-27)], vm := .none },
  { cls := 8, slots := #[.long (-26)], vm := .none },
  { cls := 8, slots := #[.long (-25)], vm := .none },
  { cls := 8, slots := #[.long (-24)], vm := .none },
  { cls := 8, slots := #[.long (-23)], vm := .none },
  { cls := 8, slots := #[.long (-22)], vm := .none },
  { cls := 8, slots := #[.long (-21)], vm := .none },
  { cls := 8, slots := #[.long (-20)], vm := .none },
  { cls := 8, slots := #[.long (-19)], vm := .none },
  { cls := 8, slots := #[.long (-18)], vm := .none },
  { cls := 8, slots := #[.long (-17)], vm := .none },
  { cls := 8, slots := #[.long (-16)], vm := .none },
  { cls := 8, slots := #[.long (-15)], vm := .none },
  { cls := 8, slots := #[.long (-14)], vm := .none },
  { cls := 8, slots := #[.long (-13)], vm := .none },
  { cls := 8, slots := #[.long (-12)], vm := .none },
  { cls := 8, slots := #[.long (-11)], vm := .none },
  { cls := 8, slots := #[.long (-10)], vm := .none },
  { cls := 8, slots := #[.long (-9)], vm := .none },
  { cls := 8, slots := #[.long (-8)], vm := .none },
  { cls := 8, slots := #[.long (-7)], vm := .none },
  { cls := 8, slots := #[.long (-6)], vm := .none },
  { cls := 8, slots := #[.long (-5)], vm := .none },
  { cls := 8, slots := #[.long (-4)], vm := .none },
  { cls := 8, slots := #[.long (-3)], vm := .none },
  { cls := 8, slots := #[.long (-2)], vm := .none },
  { cls := 8, slots := #[.long (-1)], vm := .none },
  { cls := 8, slots := #[.long (0)], vm := .none },
  { cls := 8, slots := #[.long (1)], vm := .none },
  { cls := 8, slots := #[.long (2)], vm := .none },
  { cls := 8, slots := #[.long (3)], vm := .none },
  { cls := 8, slots := #[.long (4)], vm := .none },
  { cls := 8, slots := #[.long (5)], vm := .none },
  { cls := 8, slots := #[.long (6)], vm := .none },
  { cls := 8, slots := #[.long (7)], vm := .none },
  { cls := 8, slots := #[.long (8)], vm := .none },
  { cls := 8, slots := #[.long (9)], vm := .none },
  { cls := 8, slots := #[.long (10)], vm := .none },
  { cls := 8, slots := #[.long (11)], vm := .none },
  { cls := 8, slots := #[.long (12)], vm := .none },
  { cls := 8, slots := #[.long (13)], vm := .none },
  { cls := 8, slots := #[.long (14)], vm := .none },
  { cls := 8, slots := #[.long (15)], vm := .none },
  { cls := 8, slots := #[.long (16)], vm := .none },
  { cls := 8, slots := #[.long (17)], vm := .none },
  { cls := 8, slots := #[.long (18)], vm := .none },
  { cls := 8, slots := #[.long (19)], vm := .none },
  { cls := 8, slots := #[.long (20)], vm := .none },
  { cls := 8, slots := #[.long (21)], vm := .none },
  { cls := 8, slots := #[.long (22)], vm := .none },
  { cls := 8, slots := #[.long (23)], vm := .none },
  { cls := 8, slots := #[.long (24)], vm := .none },
  { cls := 8, slots := #[.long (25)], vm := .none },
  { cls := 8, slots := #[.long (26)], vm := .none },
  { cls := 8, slots := #[.long (27)], vm := .none },
  { cls := 8, slots := #[.long (28)], vm := .none },
  { cls := 8, slots := #[.long (29)], vm := .none },
  { cls := 8, slots := #[.long (30)], vm := .none },
  { cls := 8, slots := #[.long (31)], vm := .none },
  { cls := 8, slots := #[.long (32)], vm := .none },
  { cls := 8, slots := #[.long (33)], vm := .none },
  { cls := 8, slots := #[.long (34)], vm := .none },
  { cls := 8, slots := #[.long (35)], vm := .none },
  { cls := 8, slots := #[.long (36)], vm := .none },
  { cls := 8, slots := #[.long (37)], vm := .none },
  { cls := 8, slots := #[.long (38)], vm := .none },
  { cls := 8, slots := #[.long (39)], vm := .none },
  { cls := 8, slots := #[.long (40)], vm := .none },
  { cls := 8, slots := #[.long (41)], vm := .none },
  { cls := 8, slots := #[.long (42)], vm := .none },
  { cls := 8, slots := #[.long (43)], vm := .none },
  { cls := 8, slots := #[.long (44)], vm := .none },
  { cls := 8, slots := #[.long (45)], vm := .none },
  { cls := 8, slots := #[.long (46)], vm := .none },
  { cls := 8, slots := #[.long (47)], vm := .none },
  { cls := 8, slots := #[.long (48)], vm := .none },
  { cls := 8, slots := #[.long (49)], vm := .none },
  { cls := 8, slots := #[.long (50)], vm := .none },
  { cls := 8, slots := #[.long (51)], vm := .none },
  { cls := 8, slots := #[.long (52)], vm := .none },
  { cls := 8, slots := #[.long (53)], vm := .none },
  { cls := 8, slots := #[.long (54)], vm := .none },
  { cls := 8, slots := #[.long (55)], vm := .none },
  { cls := 8, slots := #[.long (56)], vm := .none },
  { cls := 8, slots := #[.long (57)], vm := .none },
  { cls := 8, slots := #[.long (58)], vm := .none },
  { cls := 8, slots := #[.long (59)], vm := .none },
  { cls := 8, slots := #[.long (60)], vm := .none },
  { cls := 8, slots := #[.long (61)], vm := .none },
  { cls := 8, slots := #[.long (62)], vm := .none },
  { cls := 8, slots := #[.long (63)], vm := .none },
  { cls := 8, slots := #[.long (64)], vm := .none },
  { cls := 8, slots := #[.long (65)], vm := .none },
  { cls := 8, slots := #[.long (66)], vm := .none },
  { cls := 8, slots := #[.long (67)], vm := .none },
  { cls := 8, slots := #[.long (68)], vm := .none },
  { cls := 8, slots := #[.long (69)], vm := .none },
  { cls := 8, slots := #[.long (70)], vm := .none },
  { cls := 8, slots := #[.long (71)], vm := .none },
  { cls := 8, slots := #[.long (72)], vm := .none },
  { cls := 8, slots := #[.long (73)], vm := .none },
  { cls := 8, slots := #[.long (74)], vm := .none },
  { cls := 8, slots := #[.long (75)], vm := .none },
  { cls := 8, slots := #[.long (76)], vm := .none },
  { cls := 8, slots := #[.long (77)], vm := .none },
  { cls := 8, slots := #[.long (78)], vm := .none },
  { cls := 8, slots := #[.long (79)], vm := .none },
  { cls := 8, slots := #[.long (80)], vm := .none },
  { cls := 8, slots := #[.long (81)], vm := .none },
  { cls := 8, slots := #[.long (82)], vm := .none },
  { cls := 8, slots := #[.long (83)], vm := .none },
  { cls := 8, slots := #[.long (84)], vm := .none },
  { cls := 8, slots := #[.long (85)], vm := .none },
  { cls := 8, slots := #[.long (86)], vm := .none },
  { cls := 8, slots := #[.long (87)], vm := .none },
  { cls := 8, slots := #[.long (88)], vm := .none },
  { cls := 8, slots := #[.long (89)], vm := .none },
  { cls := 8, slots := #[.long (90)], vm := .none },
  { cls := 8, slots := #[.long (91)], vm := .none },
  { cls := 8, slots := #[.long (92)], vm := .none },
  { cls := 8, slots := #[.long (93)], vm := .none },
  { cls := 8, slots := #[.long (94)], vm := .none },
  { cls := 8, slots := #[.long (95)], vm := .none },
  { cls := 8, slots := #[.long (96)], vm := .none },
  { cls := 8, slots := #[.long (97)], vm := .none },
  { cls := 8, slots := #[.long (98)], vm := .none },
  { cls := 8, slots := #[.long (99)], vm := .none },
  { cls := 8, slots := #[.long (100)], vm := .none },
  { cls := 8, slots := #[.long (101)], vm := .none },
  { cls := 8, slots := #[.long (102)], vm := .none },
  { cls := 8, slots := #[.long (103)], vm := .none },
  { cls := 8, slots := #[.long (104)], vm := .none },
  { cls := 8, slots := #[.long (105)], vm := .none },
  { cls := 8, slots := #[.long (106)], vm := .none },
  { cls := 8, slots := #[.long (107)], vm := .none },
  { cls := 8, slots := #[.long (108)], vm := .none },
  { cls := 8, slots := #[.long (109)], vm := .none },
  { cls := 8, slots := #[.long (110)], vm := .none },
  { cls := 8, slots := #[.long (111)], vm := .none },
  { cls := 8, slots := #[.long (112)], vm := .none },
  { cls := 8, slots := #[.long (113)], vm := .none },
  { cls := 8, slots := #[.long (114)], vm := .none },
  { cls := 8, slots := #[.long (115)], vm := .none },
  { cls := 8, slots := #[.long (116)], vm := .none },
  { cls := 8, slots := #[.long (117)], vm := .none },
  { cls := 8, slots := #[.long (118)], vm := .none },
  { cls := 8, slots := #[.long (119)], vm := .none },
  { cls := 8, slots := #[.long (120)], vm := .none },
  { cls := 8, slots := #[.long (121)], vm := .none },
  { cls := 8, slots := #[.long (122)], vm := .none },
  { cls := 8, slots := #[.long (123)], vm := .none },
  { cls := 8, slots := #[.long (124)], vm := .none },
  { cls := 8, slots := #[.long (125)], vm := .none },
  { cls := 8, slots := #[.long (126)], vm := .none },
  { cls := 8, slots := #[.long (127)], vm := .none }]
def classes : Array Class := #[k0, k1, k2, k3, k4, k5, k6, k7, k8, k9, k10, k11, k12, k13, k14, k15, k16, k17]
def interned : List (Array UInt16 × Addr) := []
def slotsUsed : Nat := 515
def theMethod : MethodId := ⟨1, 1⟩
def args0 : Array Value := #[.long 5, .int 5, .int 0, .int 7, .int 7]
def aboutOver (below : List Frame) : State where
  vm := { classes := classes, interned := interned.toArray }
  heap := heap
  slotsUsed := slotsUsed
  threads := #[{ frames := .invoking theMethod args0 :: below }]
def below0 : List Frame := [.native { method := ⟨0, 0⟩, args := #[] }]
def about1 : State := aboutOver below0
def p0 : Program := .bare "" "" ""
def e0 : Env := launch0.env 0 0 0
theorem w_frames : about1.frames = Frame.invoking theMethod args0 :: below0 := rfl
set_option maxRecDepth 65536 in
theorem w_args : argsFit about1.vm theMethod args0 = true := by decide +kernel
set_option maxRecDepth 65536 in
theorem w_heap : heapFits about1 = true := by decide +kernel
set_option maxRecDepth 65536 in
theorem w_runnable : about1.curStatus? = some .runnable := by decide +kernel
set_option maxRecDepth 65536 in
theorem w_alone : about1.alone = true := by decide +kernel
set_option maxRecDepth 65536 in
theorem w_named : about1.methodNamed? x = some theMethod := by decide +kernel
set_option maxRecDepth 65536 in
theorem w_hears : about1.hears theMethod below0 = true := by decide +kernel
set_option maxRecDepth 65536 in
theorem w_ripe : about1.ripe theMethod args0 below0 = true := by decide +kernel
theorem w_running : about1.status = .running := rfl
set_option maxRecDepth 65536 in
theorem w_room : about1.hasRoom e0.platform room_1 = true :=
  launch0.hasRoom_least _ room_1 (by decide +kernel) (by decide +kernel) (by decide +kernel) (by decide +kernel) (by decide +kernel) (by decide +kernel)
theorem allAtoms_all (ts : List Jvm.Cond) (a : Array Jvm.Value) (st : Jvm.State) : (allAtoms ts).before a st = ts.all (fun c => c.before a st) := by
  induction ts with
  | nil => rfl
  | cons c t ih =>
    show (Jvm.Cond.and c (allAtoms t)).before a st = _
    rw [Jvm.Cond.before_and, ih, List.all_cons]
def words1 : List Jvm.Cond := Jvm.Cond.code x code maxLocals ret :: tables_1
/-- a 'code' word, met by the world's own term for the bytes: nothing is compared byte by byte -/
theorem code_word {y : MethodName} {bytes : ByteArray} {mx : Nat} {rt : Option FieldType} {a : Array Value} {s : State} {m : MethodId} {meth : Method} {c : Code} (h1 : s.methodNamed? y = some m) (h2 : s.vm.method? m = some meth) (h3 : meth.code = some c) (h4 : c.code = bytes)
    (h5 : (c.maxLocals == mx && c.exceptionTable.isEmpty && decide (c.maxStack ≤ mostOperands) && decide (meth.sig.returnType = rt) && !meth.locks && decide (parseMethodDescriptor y.desc = some meth.sig)) = true) : (Jvm.Cond.code y bytes mx rt).before a s = true := by
  simp only [Bool.and_eq_true, beq_iff_eq, Bool.not_eq_true', decide_eq_true_eq] at h5
  obtain ⟨⟨⟨⟨⟨g1, g2⟩, g3⟩, g4⟩, g5⟩, g6⟩ := h5
  simp [Cond.before, Cond.holds, Cond.value, h1, h2, h3, h4, g1, g2, g3, g4, g5, g6]
def isCode : Jvm.Cond → Bool
  | .code _ _ _ _ => true
  | _ => false
theorem all_split {L : List Jvm.Cond} {P : Jvm.Cond → Bool} (h1 : L.all (fun c => isCode c || P c) = true) (h2 : ∀ c ∈ L.filter isCode, P c = true) : L.all P = true := by
  refine List.all_eq_true.mpr fun c hc => ?_
  have h := List.all_eq_true.mp h1 c hc
  rcases Bool.eq_false_or_eq_true (isCode c) with hi | hi
  · exact h2 c (List.mem_filter.mpr ⟨hc, hi⟩)
  · simpa [hi] using h
set_option maxRecDepth 65536 in
theorem w_c0 : (Jvm.Cond.code x code maxLocals ret).before args0 about1 = true := code_word (m := ⟨1, 1⟩) (meth := k1m1) (c := k1c1) (by decide +kernel) rfl rfl rfl (by decide +kernel)
set_option maxRecDepth 65536 in
theorem w_c1 : (Jvm.Cond.code ({ cls := "com/example/gridtally/gridtally/core/DecimalsIntegerPinLaw", name := "put", desc := "([BJ[J)V" } : Jvm.MethodName) method_5_code (4 : Nat) (Option.none : Option Jvm.ClassFile.FieldType)).before args0 about1 = true := code_word (m := ⟨1, 4⟩) (meth := k1m4) (c := k1c4) (by decide +kernel) rfl rfl rfl (by decide +kernel)
set_option maxRecDepth 65536 in
theorem w_c2 : (Jvm.Cond.code ({ cls := "com/example/gridtally/gridtally/core/DecimalsIntegerPinLaw", name := "dig", desc := "(JJ)B" } : Jvm.MethodName) method_4_code (4 : Nat) (Option.some Jvm.ClassFile.FieldType.byte)).before args0 about1 = true := code_word (m := ⟨1, 3⟩) (meth := k1m3) (c := k1c3) (by decide +kernel) rfl rfl rfl (by decide +kernel)
set_option maxRecDepth 65536 in
theorem w_c3 : (Jvm.Cond.code ({ cls := "com/example/gridtally/gridtally/core/Decimals", name := "integer", desc := "([BII)Ljava/lang/Long;" } : Jvm.MethodName) prog_20_method_5_code (3 : Nat) (Option.some (Jvm.ClassFile.FieldType.object "java/lang/Long"))).before args0 about1 = true := code_word (m := ⟨2, 1⟩) (meth := k2m1) (c := k2c1) (by decide +kernel) rfl rfl rfl (by decide +kernel)
set_option maxRecDepth 65536 in
theorem w_c4 : (Jvm.Cond.code ({ cls := "com/example/gridtally/gridtally/core/Decimals", name := "scale", desc := "([BII)I" } : Jvm.MethodName) prog_20_method_6_code (8 : Nat) (Option.some Jvm.ClassFile.FieldType.int)).before args0 about1 = true := code_word (m := ⟨2, 2⟩) (meth := k2m2) (c := k2c2) (by decide +kernel) rfl rfl rfl (by decide +kernel)
set_option maxRecDepth 65536 in
theorem w_c5 : (Jvm.Cond.code ({ cls := "com/example/gridtally/gridtally/core/Decimals", name := "isDigit", desc := "(B)Z" } : Jvm.MethodName) prog_20_method_9_code (1 : Nat) (Option.some Jvm.ClassFile.FieldType.boolean)).before args0 about1 = true := code_word (m := ⟨2, 4⟩) (meth := k2m4) (c := k2c4) (by decide +kernel) rfl rfl rfl (by decide +kernel)
set_option maxRecDepth 65536 in
theorem w_c6 : (Jvm.Cond.code ({ cls := "com/example/gridtally/gridtally/core/Decimals", name := "digits", desc := "([BII)J" } : Jvm.MethodName) prog_20_method_7_code (6 : Nat) (Option.some Jvm.ClassFile.FieldType.long)).before args0 about1 = true := code_word (m := ⟨2, 3⟩) (meth := k2m3) (c := k2c3) (by decide +kernel) rfl rfl rfl (by decide +kernel)
set_option maxRecDepth 65536 in
theorem w_c7 : (Jvm.Cond.code ({ cls := "java/lang/Long", name := "valueOf", desc := "(J)Ljava/lang/Long;" } : Jvm.MethodName) jdk_35_method_24_code (3 : Nat) (Option.some (Jvm.ClassFile.FieldType.object "java/lang/Long"))).before args0 about1 = true := code_word (m := ⟨8, 0⟩) (meth := k8m0) (c := k8c0) (by decide +kernel) rfl rfl rfl (by decide +kernel)
set_option maxRecDepth 65536 in
theorem w_c8 : (Jvm.Cond.code ({ cls := "java/lang/Long", name := "longValue", desc := "()J" } : Jvm.MethodName) jdk_35_method_31_code (1 : Nat) (Option.some Jvm.ClassFile.FieldType.long)).before args0 about1 = true := code_word (m := ⟨8, 2⟩) (meth := k8m2) (c := k8c2) (by decide +kernel) rfl rfl rfl (by decide +kernel)
set_option maxRecDepth 65536 in
theorem w_c9 : (Jvm.Cond.code ({ cls := "com/example/gridtally/gridtally/core/DecimalsIntegerPinLaw", name := "isDigit", desc := "(B)Z" } : Jvm.MethodName) method_3_code (1 : Nat) (Option.some Jvm.ClassFile.FieldType.boolean)).before args0 about1 = true := code_word (m := ⟨1, 2⟩) (meth := k1m2) (c := k1c2) (by decide +kernel) rfl rfl rfl (by decide +kernel)
set_option maxRecDepth 65536 in
theorem w_c10 : (Jvm.Cond.code ({ cls := "java/lang/Long", name := "<init>", desc := "(J)V" } : Jvm.MethodName) jdk_35_method_26_code (3 : Nat) (Option.none : Option Jvm.ClassFile.FieldType)).before args0 about1 = true := code_word (m := ⟨8, 1⟩) (meth := k8m1) (c := k8c1) (by decide +kernel) rfl rfl rfl (by decide +kernel)
set_option maxRecDepth 65536 in
theorem w_c11 : (Jvm.Cond.code ({ cls := "java/lang/Number", name := "<init>", desc := "()V" } : Jvm.MethodName) jdk_18_method_1_code (1 : Nat) (Option.none : Option Jvm.ClassFile.FieldType)).before args0 about1 = true := code_word (m := ⟨4, 0⟩) (meth := k4m0) (c := k4c0) (by decide +kernel) rfl rfl rfl (by decide +kernel)
set_option maxRecDepth 65536 in
theorem w_c12 : (Jvm.Cond.code ({ cls := "java/lang/Object", name := "<init>", desc := "()V" } : Jvm.MethodName) object_method_1_code (1 : Nat) (Option.none : Option Jvm.ClassFile.FieldType)).before args0 about1 = true := code_word (m := ⟨0, 0⟩) (meth := k0m0) (c := k0c0) (by decide +kernel) rfl rfl rfl (by decide +kernel)
def codes1 : List Jvm.Cond := [Jvm.Cond.code x code maxLocals ret, Jvm.Cond.code ({ cls := "com/example/gridtally/gridtally/core/DecimalsIntegerPinLaw", name := "put", desc := "([BJ[J)V" } : Jvm.MethodName) method_5_code (4 : Nat) (Option.none : Option Jvm.ClassFile.FieldType), Jvm.Cond.code ({ cls := "com/example/gridtally/gridtally/core/DecimalsIntegerPinLaw", name := "dig", desc := "(JJ)B" } : Jvm.MethodName) method_4_code (4 : Nat) (Option.some Jvm.ClassFile.FieldType.byte), Jvm.Cond.code ({ cls := "com/example/gridtally/gridtally/core/Decimals", name := "integer", desc := "([BII)Ljava/lang/Long;" } : Jvm.MethodName) prog_20_method_5_code (3 : Nat) (Option.some (Jvm.ClassFile.FieldType.object "java/lang/Long")), Jvm.Cond.code ({ cls := "com/example/gridtally/gridtally/core/Decimals", name := "scale", desc := "([BII)I" } : Jvm.MethodName) prog_20_method_6_code (8 : Nat) (Option.some Jvm.ClassFile.FieldType.int), Jvm.Cond.code ({ cls := "com/example/gridtally/gridtally/core/Decimals", name := "isDigit", desc := "(B)Z" } : Jvm.MethodName) prog_20_method_9_code (1 : Nat) (Option.some Jvm.ClassFile.FieldType.boolean), Jvm.Cond.code ({ cls := "com/example/gridtally/gridtally/core/Decimals", name := "digits", desc := "([BII)J" } : Jvm.MethodName) prog_20_method_7_code (6 : Nat) (Option.some Jvm.ClassFile.FieldType.long), Jvm.Cond.code ({ cls := "java/lang/Long", name := "valueOf", desc := "(J)Ljava/lang/Long;" } : Jvm.MethodName) jdk_35_method_24_code (3 : Nat) (Option.some (Jvm.ClassFile.FieldType.object "java/lang/Long")), Jvm.Cond.code ({ cls := "java/lang/Long", name := "longValue", desc := "()J" } : Jvm.MethodName) jdk_35_method_31_code (1 : Nat) (Option.some Jvm.ClassFile.FieldType.long), Jvm.Cond.code ({ cls := "com/example/gridtally/gridtally/core/DecimalsIntegerPinLaw", name := "isDigit", desc := "(B)Z" } : Jvm.MethodName) method_3_code (1 : Nat) (Option.some Jvm.ClassFile.FieldType.boolean), Jvm.Cond.code ({ cls := "java/lang/Long", name := "<init>", desc := "(J)V" } : Jvm.MethodName) jdk_35_method_26_code (3 : Nat) (Option.none : Option Jvm.ClassFile.FieldType), Jvm.Cond.code ({ cls := "java/lang/Number", name := "<init>", desc := "()V" } : Jvm.MethodName) jdk_18_method_1_code (1 : Nat) (Option.none : Option Jvm.ClassFile.FieldType), Jvm.Cond.code ({ cls := "java/lang/Object", name := "<init>", desc := "()V" } : Jvm.MethodName) object_method_1_code (1 : Nat) (Option.none : Option Jvm.ClassFile.FieldType)]
set_option maxRecDepth 65536 in
theorem codes_eq : words1.filter isCode = codes1 := rfl
theorem w_codes : ∀ c ∈ words1.filter isCode, c.before args0 about1 = true := by
  rw [codes_eq]
  intro c hc
  simp only [codes1, List.mem_cons, List.not_mem_nil, or_false] at hc
  rcases hc with rfl | rfl | rfl | rfl | rfl | rfl | rfl | rfl | rfl | rfl | rfl | rfl | rfl
  · exact w_c0
  · exact w_c1
  · exact w_c2
  · exact w_c3
  · exact w_c4
  · exact w_c5
  · exact w_c6
  · exact w_c7
  · exact w_c8
  · exact w_c9
  · exact w_c10
  · exact w_c11
  · exact w_c12
set_option maxRecDepth 65536 in
theorem w_t1 : (words1.take 24).all (fun c => isCode c || c.before args0 about1) = true := by decide +kernel
set_option maxRecDepth 65536 in
theorem w_t2 : ((words1.drop 24).take 24).all (fun c => isCode c || c.before args0 about1) = true := by decide +kernel
set_option maxRecDepth 65536 in
theorem w_t3 : (((words1.drop 24).drop 24).take 24).all (fun c => isCode c || c.before args0 about1) = true := by decide +kernel
set_option maxRecDepth 65536 in
theorem w_t4 : (((words1.drop 24).drop 24).drop 24).all (fun c => isCode c || c.before args0 about1) = true := by decide +kernel
theorem w_tables : (allAtoms (Jvm.Cond.code x code maxLocals ret :: tables_1)).before args0 about1 = true := by
  rw [allAtoms_all]
  show words1.all (fun c => c.before args0 about1) = true
  refine all_split ?_ w_codes
  rw [← List.take_append_drop 24 words1, List.all_append, w_t1, ← List.take_append_drop 24 (words1.drop 24), List.all_append, w_t2, ← List.take_append_drop 24 ((words1.drop 24).drop 24), List.all_append, w_t3, w_t4]
  rfl
set_option maxRecDepth 65536 in
theorem w_rest : rest_1_c.before args0 about1 = true := by decide +kernel
set_option maxRecDepth 65536 in
theorem w_case : (Jvm.Cond.and given_1 narrow_1).before args0 about1 = true := by decide +kernel
theorem w_applies : (headSpec (Jvm.Cond.code x code maxLocals ret :: tables_1) room_1).applies x e0.platform about1 = true :=
  (Spec.applies_iff w_frames).mpr ⟨w_running, w_runnable, w_alone, w_named, w_hears, w_ripe, w_room, w_tables⟩
theorem atStart : AtStart classFile x code maxLocals ret World_1 tables_1 room_1 Calls_1 rest_1 Pre_1 launch0 p0 e0 about1 theMethod args0 below0 :=
  ⟨lists_1, trivial, launch0.admits_env _ _ _, launch0.least_env, fairChoices_fair.cas, fairChoices_fair.clock, w_frames, w_args, w_heap, w_applies, trivial, w_rest, w_case⟩
end start1
theorem witness_1 : WitnessClaimed_1 := ⟨start1.p0, start1.e0, start1.about1, start1.theMethod, start1.args0, start1.below0, start1.atStart⟩
end Jvm.Pilot.@@N@@
