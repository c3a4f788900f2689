import JvmDerived
import JvmDerived.Pilot.@@N@@Statement
import JvmDerived.Pilot.@@N@@Code
set_option linter.unusedVariables false
set_option linter.unusedSimpArgs false
namespace Jvm.Pilot.@@N@@
open Jvm Jvm.ClassFile Sem Op Lib Jvm.Free Jvm.Stand Jvm.LawKit Jvm.RoadKit Bundle Jvm.Pilot.@@N@@.Jvm.D
section Own
variable {p : Program} {l : Launch} {e : Env} {R : Room} {s : State} {m : MethodId} {args : Array Value} {below : List Frame} {meth : Method} {c : Code} {T : State} {locs : List Loc} {cells slots : Nat} {Z : State} {a0 : Array Value} {K : State → Outcome → Prop} {pc pc' : Nat} {Ls : Array Slot} {st : List Value} {h : Heap}
/-- from here the run ends, and what is left is as K says -/
def own_Go (p : Program) (e : Env) (below : List Frame) (K : State → Outcome → Prop) (T : State) (f : JFrame) : Prop :=
  ∃ s₂ o, Steps p.tables e below (T.setTop f) s₂ ∧ s₂.status = .running ∧ Ended s₂ below o ∧ K s₂ o
def own_K (Q : Option Value → Heap → List Loc → Prop) (s : State) (cs ss : Nat) : State → Outcome → Prop := fun u o => ∃ v L, o = .returned v ∧ Q v u.heap L ∧ FrameEnd s o u L cs ss
theorem own_go {T' : State} {f f' : JFrame} (h : ∀ t, Steps p.tables e below (T'.setTop f') t → Steps p.tables e below (T.setTop f) t) (k : own_Go p e below K T' f') : own_Go p e below K T f := by
  obtain ⟨a, b, c, d⟩ := k
  exact ⟨a, b, h _ c, d⟩
theorem own_w {tb : List Jvm.Cond} (hw : ∀ d ∈ tb, d.before a0 Z = true) {d : Jvm.Cond} (k : Nat) (h : tb[k]? = some d) : d.before a0 Z = true := hw _ (List.mem_of_getElem? h)
/-- a method's contract: called with these arguments over this heap it returns, and Q says what it leaves -/
abbrev own_Met (l : Launch) (Z : State) (y : MethodName) (bytes : ByteArray) (mx : Nat) (rt : Option FieldType) (ws : List Jvm.Cond) (rm : Room) (as : Array Value) (h0 : Heap) (Q : Option Value → Heap → List Loc → Prop) : Prop :=
  MetFree l y (head1 (Jvm.Cond.code y bytes mx rt :: ws) rm) (fun a U => a = as ∧ Z.Warmed39 U.vm ∧ U.heap = h0) (fun _ _ _ _ _ => True) (fun _ U o U' => ∃ v L, o = .returned v ∧ Q v U'.heap L ∧ FrameEnd U o U' L rm.cells rm.slots)
theorem own_body {y : MethodName} {bytes : ByteArray} {mx : Nat} {rt : Option FieldType} {ws : List Jvm.Cond} {rm : Room} {as : Array Value} {h0 : Heap} {Q : Option Value → Heap → List Loc → Prop} (hp : plainFor y = true)
    (body : ∀ (p : Program) (e : Env) (s : State) (m : MethodId) (below : List Frame) (meth : Method) (c : Code) (T : State), Stand p l e rm s m as below meth c T [] 0 0 → p.tables.exec = Jvm.exec → c.code = bytes → c.maxLocals = mx → meth.sig.returnType = rt → meth.locks = false → Z.Warmed39 s.vm → s.vm.findClass y.cls = some m.cls → meth.name = y.name → T.heap = h0 →
      own_Go p e below (own_K Q s rm.cells rm.slots) T (entryFrame m as mx)) : own_Met l Z y bytes mx rt ws rm as h0 Q := by
  refine MetFree.of_bodySF hp hisR ?_
  intro p e s m args below meth c s₁ Bd hml0 hP hK
  obtain ⟨rfl, hZ, hh⟩ := hP
  exact body p e s m below meth c s₁ (Stand.of_body Bd) Bd.exec Bd.bytes hml0 Bd.returns Bd.notSynchronized hZ (findClass_of_methodNamed Bd.named) (name_of_methodNamed Bd.named Bd.method).1 (by rw [← hh, Bd.state]; rfl)
theorem own_ret (X : Stand p l e R s m args below meth c T locs cells slots) (hx : p.tables.exec = Jvm.exec) {Q : Option Value → Heap → List Loc → Prop} {cs ss : Nat} {w : Value} {t : FieldType} {i : Instr} {rest : List Value} (hlk : meth.locks = false) (hret : meth.sig.returnType = some t) (hd : decode c.code pc = .ok (i, 1)) (hn : narrow t w = w)
    (hi : (i = .ireturn ∧ (t = .int ∨ t = .boolean ∨ t = .byte ∨ t = .char ∨ t = .short) ∧ ∃ z, w = .int z) ∨ (i = .lreturn ∧ t = .long ∧ ∃ z, w = .long z) ∨ (i = .dreturn ∧ t = .double ∧ ∃ z, w = .double z) ∨ (i = .freturn ∧ t = .float ∧ ∃ z, w = .float z) ∨ (i = .areturn ∧ t.isReference = true ∧ w.isRef = true))
    (hc : cells ≤ cs) (hs : slots ≤ ss) (hq : Q (some w) T.heap locs) : own_Go p e below (own_K Q s cs ss) T (mkF m pc Ls (w :: rest)) := by
  obtain ⟨fs, hr, hrun, hended, hW, hsame⟩ := X.leave (v := some w) (fun h => by rw [hret] at h; cases h) hlk
  exact ⟨_, _, retOut X hx hret hn hi hd hr, hrun, hended, _, _, rfl, hq, ⟨_, rfl⟩, hW, hsame.mono hc hs⟩
theorem own_retI (X : Stand p l e R s m args below meth c T locs cells slots) (hx : p.tables.exec = Jvm.exec) {Q : Option Value → Heap → List Loc → Prop} {cs ss : Nat} {z : Int32} {rest : List Value} (hlk : meth.locks = false) (hret : meth.sig.returnType = some .int) (hd : decode c.code pc = .ok (.ireturn, 1)) (hc : cells ≤ cs) (hs : slots ≤ ss) (hq : Q (some (.int z)) T.heap locs) : own_Go p e below (own_K Q s cs ss) T (mkF m pc Ls (.int z :: rest)) :=
  own_ret X hx hlk hret hd rfl (Or.inl ⟨rfl, Or.inl rfl, z, rfl⟩) hc hs hq
theorem own_retZ (X : Stand p l e R s m args below meth c T locs cells slots) (hx : p.tables.exec = Jvm.exec) {Q : Option Value → Heap → List Loc → Prop} {cs ss : Nat} {z : Int32} {rest : List Value} (hlk : meth.locks = false) (hret : meth.sig.returnType = some .boolean) (hd : decode c.code pc = .ok (.ireturn, 1)) (hn : z = 0 ∨ z = 1) (hc : cells ≤ cs) (hs : slots ≤ ss) (hq : Q (some (.int z)) T.heap locs) : own_Go p e below (own_K Q s cs ss) T (mkF m pc Ls (.int z :: rest)) :=
  own_ret X hx hlk hret hd (by rcases hn with rfl | rfl <;> rfl) (Or.inl ⟨rfl, Or.inr (Or.inl rfl), z, rfl⟩) hc hs hq
theorem own_retJ (X : Stand p l e R s m args below meth c T locs cells slots) (hx : p.tables.exec = Jvm.exec) {Q : Option Value → Heap → List Loc → Prop} {cs ss : Nat} {z : Int64} {rest : List Value} (hlk : meth.locks = false) (hret : meth.sig.returnType = some .long) (hd : decode c.code pc = .ok (.lreturn, 1)) (hc : cells ≤ cs) (hs : slots ≤ ss) (hq : Q (some (.long z)) T.heap locs) : own_Go p e below (own_K Q s cs ss) T (mkF m pc Ls (.long z :: rest)) :=
  own_ret X hx hlk hret hd rfl (Or.inr (Or.inl ⟨rfl, rfl, z, rfl⟩)) hc hs hq
theorem own_retA (X : Stand p l e R s m args below meth c T locs cells slots) (hx : p.tables.exec = Jvm.exec) {Q : Option Value → Heap → List Loc → Prop} {cs ss : Nat} {w : Value} {t : FieldType} {rest : List Value} (hlk : meth.locks = false) (hret : meth.sig.returnType = some t) (hd : decode c.code pc = .ok (.areturn, 1)) (ht : t.isReference = true) (hv : w.isRef = true) (hc : cells ≤ cs) (hs : slots ≤ ss) (hq : Q (some w) T.heap locs) : own_Go p e below (own_K Q s cs ss) T (mkF m pc Ls (w :: rest)) :=
  own_ret X hx hlk hret hd (by rcases ref_cases hv with rfl | ⟨a, rfl⟩ <;> cases t <;> first | rfl | cases ht) (Or.inr (Or.inr (Or.inr (Or.inr ⟨rfl, ht, hv⟩)))) hc hs hq
theorem own_retV (X : Stand p l e R s m args below meth c T locs cells slots) (hx : p.tables.exec = Jvm.exec) {Q : Option Value → Heap → List Loc → Prop} {cs ss : Nat} (hlk : meth.locks = false) (hret : meth.sig.returnType = none) (hd : decode c.code pc = .ok (.return_, 1)) (hc : cells ≤ cs) (hs : slots ≤ ss) (hq : Q none T.heap locs) : own_Go p e below (own_K Q s cs ss) T (mkF m pc Ls []) := by
  obtain ⟨fs, hr, hrun, hended, hW, hsame⟩ := X.leave (v := none) (fun _ => rfl) hlk
  exact ⟨_, _, X.returnOut hx hret hd hr, hrun, hended, _, _, rfl, hq, ⟨_, rfl⟩, hW, hsame.mono hc hs⟩
/-- the two roads of a conditional branch -/
theorem own_if (X : Stand p l e R s m args below meth c T locs cells slots) (hx : p.tables.exec = Jvm.exec) {cd : ClassFile.Cond} {o : Int} {z : Int32} {rest : List Value} (hd : decode c.code pc = .ok (.ifCond cd o, 3)) (ho : 0 ≤ (pc : Int) + o) (hp : ((pc : Int) + o).toNat = pc') {pc1 : Nat} (hp1 : pc + 3 = pc1) (P : Prop) (h1 : P → ifCond.holds cd z = true) (h2 : ¬ P → ifCond.holds cd z = false)
    (kt : P → own_Go p e below K T (mkF m pc' Ls rest)) (kf : ¬ P → own_Go p e below K T (mkF m pc1 Ls rest)) : own_Go p e below K T (mkF m pc Ls (.int z :: rest)) := by
  subst hp1
  by_cases q : P
  · exact own_go (fun t k => XS.ifYes X.here hx (g := mkF m pc Ls (.int z :: rest)) rfl (pc0 := pc) (pc' := pc') rfl hd rfl (h1 q) ho hp k) (kt q)
  · exact own_go (fun t k => XS.ifNo X.here hx (g := mkF m pc Ls (.int z :: rest)) rfl hd rfl (h2 q) k) (kf q)
theorem own_icmp (X : Stand p l e R s m args below meth c T locs cells slots) (hx : p.tables.exec = Jvm.exec) {cd : ClassFile.Cond} {o : Int} {y z : Int32} {rest : List Value} (hd : decode c.code pc = .ok (.if_icmp cd o, 3)) (ho : 0 ≤ (pc : Int) + o) (hp : ((pc : Int) + o).toNat = pc') {pc1 : Nat} (hp1 : pc + 3 = pc1) (P : Prop) (h1 : P → if_icmp.holds cd y z = true) (h2 : ¬ P → if_icmp.holds cd y z = false)
    (kt : P → own_Go p e below K T (mkF m pc' Ls rest)) (kf : ¬ P → own_Go p e below K T (mkF m pc1 Ls rest)) : own_Go p e below K T (mkF m pc Ls (.int z :: .int y :: rest)) := by
  subst hp1
  by_cases q : P
  · exact own_go (fun t k => XS.icmpYes X.here hx (g := mkF m pc Ls (.int z :: .int y :: rest)) rfl (pc0 := pc) (pc' := pc') rfl hd rfl (h1 q) ho hp k) (kt q)
  · exact own_go (fun t k => XS.icmpNo X.here hx (g := mkF m pc Ls (.int z :: .int y :: rest)) rfl hd rfl (h2 q) k) (kf q)
theorem own_callS (X : Stand p l e R s m args below meth c T locs cells slots) (hx : p.tables.exec = Jvm.exec) (hZ : Z.Warmed39 s.vm) {own : String} {index : Nat} {y : MethodName} {bytes : ByteArray} {mx : Nat} {rt : Option FieldType} {rm : Room} {argsL rest : List Value} {Q : Option Value → Heap → List Loc → Prop}
    (hown : s.vm.findClass own = some m.cls) (w1 : (Jvm.Cond.methodLink own index y).before a0 Z = true) (w2 : (Jvm.Cond.static y).before a0 Z = true) (w3 : (Jvm.Cond.initialized y.cls).before a0 Z = true) (w4 : (Jvm.Cond.code y bytes mx rt).before a0 Z = true) (hy : y.cls ≠ "java/lang/invoke/MethodHandle" ∧ y.cls ≠ "java/lang/invoke/VarHandle")
    (eT : T.heap = h) (hM : own_Met l Z y bytes mx rt [] rm argsL.toArray h Q) (W : Nat) (hf : rm.frames + 1 ≤ R.frames) (hl : W + (mx + 11) + rm.locals ≤ R.locals) (hcl : cells + rm.cells ≤ R.cells) (hsl : slots + rm.slots ≤ R.slots) (hsz : Ls.size = c.maxLocals) (hlen : ∀ sig, parseMethodDescriptor y.desc = some sig → argsL.length = sig.parameters.length)
    (hst : st = argsL.reverse ++ rest) (hW : (rest.map fun v => v.category).sum ≤ W) (hd : decode c.code pc = .ok (.invokestatic index, 3)) :
    ∃ v T' L, Stand p l e R s m args below meth c T' (locs ++ L) (cells + rm.cells) (slots + rm.slots) ∧ Q v T'.heap L ∧ ∀ t, Steps p.tables e below (T'.setTop (mkF m (pc + 3) Ls (v.toList ++ rest))) t → Steps p.tables e below (T.setTop (mkF m pc Ls st)) t := by
  obtain ⟨v, vm1, ⟨T', L', k', n'⟩, -, X', ⟨L, hQ, l1, l2, l3⟩, stp⟩ := Jvm.LawKit.callS X hx (y := y) hown (mvT hZ w1) (mvT hZ w2) (mvT hZ w3) (mvT hZ w4) hy (backOf (W := W) hM hZ w4 w3 hf hl) (g := mkF m pc Ls st) rfl hsz (argsL := argsL) (rest := rest) hlen hst (by show 2 * 0 + _ ≤ _; omega) hd (fun _ _ => ⟨rfl, eT, hcl, hsl⟩)
  dsimp only [Pt.U, Pt.locs, Pt.cells, Pt.slots] at X' l1 l2 l3 stp hQ
  subst l1 l2 l3
  exact ⟨v, T', L, X', hQ, stp⟩
theorem own_callV (X : Stand p l e R s m args below meth c T locs cells slots) (hx : p.tables.exec = Jvm.exec) (hZ : Z.Warmed39 s.vm) {own C : String} {index : Nat} {y z : MethodName} {bytes : ByteArray} {mx : Nat} {rt : Option FieldType} {rm : Room} {b : Addr} {argsL rest : List Value} {Q : Option Value → Heap → List Loc → Prop}
    (hown : s.vm.findClass own = some m.cls) (w1 : (Jvm.Cond.methodLink own index y).before a0 Z = true) (w2 : (Jvm.Cond.declares y).before a0 Z = true) (w3 : (Jvm.Cond.selects C y z).before a0 Z = true) (hnf : NotFace s y) (w4 : (Jvm.Cond.instanceMethod z).before a0 Z = true) (w5 : (Jvm.Cond.code z bytes mx rt).before a0 Z = true) (w6 : (Jvm.Cond.initialized z.cls).before a0 Z = true) (hy : y.cls ≠ "java/lang/invoke/MethodHandle" ∧ y.cls ≠ "java/lang/invoke/VarHandle")
    (eT : T.heap = h) (E : Exa Z h b C) (hM : own_Met l Z z bytes mx rt [] rm (.ref b :: argsL).toArray h Q) (W : Nat) (hf : rm.frames + 1 ≤ R.frames) (hl : W + (mx + 11) + rm.locals ≤ R.locals) (hcl : cells + rm.cells ≤ R.cells) (hsl : slots + rm.slots ≤ R.slots) (hsz : Ls.size = c.maxLocals) (hlen : ∀ sig, parseMethodDescriptor y.desc = some sig → argsL.length = sig.parameters.length)
    (hst : st = argsL.reverse ++ .ref b :: rest) (hW : (rest.map fun v => v.category).sum ≤ W) (hd : decode c.code pc = .ok (.invokevirtual index, 3)) :
    ∃ v T' L, Stand p l e R s m args below meth c T' (locs ++ L) (cells + rm.cells) (slots + rm.slots) ∧ Q v T'.heap L ∧ ∀ t, Steps p.tables e below (T'.setTop (mkF m (pc + 3) Ls (v.toList ++ rest))) t → Steps p.tables e below (T.setTop (mkF m pc Ls st)) t := by
  obtain ⟨cq, kq, q1, q2, q3⟩ := isOf hZ eT E
  obtain ⟨v, vm1, ⟨T', L', k', n'⟩, -, X', ⟨L, hQ, l1, l2, l3⟩, stp⟩ := X.virtualBack hx (y := y) (z := z) hown (mvT hZ w1) (mvT hZ w2) hnf (mvT hZ w3) (mvT hZ w4) hy (backOf (W := W) hM hZ w5 w6 hf hl) q1 q3 (g := mkF m pc Ls st) rfl hsz (Steps.refl _) (argsL := argsL) (rest := rest) hlen hst (by show 2 * 0 + _ ≤ _; omega) hd (fun _ _ => ⟨rfl, eT, hcl, hsl⟩)
  dsimp only [Pt.U, Pt.locs, Pt.cells, Pt.slots] at X' l1 l2 l3 stp hQ
  subst l1 l2 l3
  exact ⟨v, T', L, X', hQ, fun t k => stp.trans k⟩
theorem own_callU (X : Stand p l e R s m args below meth c T locs cells slots) (hx : p.tables.exec = Jvm.exec) (hZ : Z.Warmed39 s.vm) {own C owner : String} {index : Nat} {y z : MethodName} {bytes : ByteArray} {mx : Nat} {rt : Option FieldType} {rm : Room} {b : Addr} {argsL rest : List Value} {Q : Option Value → Heap → List Loc → Prop}
    (hown : s.vm.findClass own = some m.cls) (w1 : (Jvm.Cond.methodLink own index y).before a0 Z = true) (w2 : (Jvm.Cond.sameMethod y.cls owner y.name y.desc).before a0 Z = true) (w2' : (Jvm.Cond.declares ⟨owner, y.name, y.desc⟩).before a0 Z = true) (w3 : (Jvm.Cond.selects C y z).before a0 Z = true) (w4 : (Jvm.Cond.instanceMethod z).before a0 Z = true) (w5 : (Jvm.Cond.code z bytes mx rt).before a0 Z = true) (w6 : (Jvm.Cond.initialized z.cls).before a0 Z = true) (hy : owner ≠ "java/lang/invoke/MethodHandle" ∧ owner ≠ "java/lang/invoke/VarHandle")
    (eT : T.heap = h) (E : Exa Z h b C) (hM : own_Met l Z z bytes mx rt [] rm (.ref b :: argsL).toArray h Q) (W : Nat) (hf : rm.frames + 1 ≤ R.frames) (hl : W + (mx + 11) + rm.locals ≤ R.locals) (hcl : cells + rm.cells ≤ R.cells) (hsl : slots + rm.slots ≤ R.slots) (hsz : Ls.size = c.maxLocals) (hlen : ∀ sig, parseMethodDescriptor y.desc = some sig → argsL.length = sig.parameters.length)
    (hst : st = argsL.reverse ++ .ref b :: rest) (hW : (rest.map fun v => v.category).sum ≤ W) (hd : decode c.code pc = .ok (.invokevirtual index, 3)) :
    ∃ v T' L, Stand p l e R s m args below meth c T' (locs ++ L) (cells + rm.cells) (slots + rm.slots) ∧ Q v T'.heap L ∧ ∀ t, Steps p.tables e below (T'.setTop (mkF m (pc + 3) Ls (v.toList ++ rest))) t → Steps p.tables e below (T.setTop (mkF m pc Ls st)) t := by
  obtain ⟨cq, kq, q1, q2, q3⟩ := isOf hZ eT E
  obtain ⟨v, vm1, ⟨T', L', k', n'⟩, -, X', ⟨L, hQ, l1, l2, l3⟩, stp⟩ := X.virtualBackUp hx (x := y) (y := z) hown (mvT hZ w1) (mvT hZ w2) (mvT hZ w2') hy (mvT hZ w3) (mvT hZ w4) (backOf (W := W) hM hZ w5 w6 hf hl) q1 q3 (g := mkF m pc Ls st) rfl hsz (Steps.refl _) (argsL := argsL) (rest := rest) hlen hst (by show 2 * 0 + _ ≤ _; omega) hd (fun _ _ => ⟨rfl, eT, hcl, hsl⟩)
  dsimp only [Pt.U, Pt.locs, Pt.cells, Pt.slots] at X' l1 l2 l3 stp hQ
  subst l1 l2 l3
  exact ⟨v, T', L, X', hQ, fun t k => stp.trans k⟩
theorem own_callC (X : Stand p l e R s m args below meth c T locs cells slots) (hx : p.tables.exec = Jvm.exec) (hZ : Z.Warmed39 s.vm) {own : String} {index : Nat} {y : MethodName} {bytes : ByteArray} {mx : Nat} {rm : Room} {b : Addr} {argsL rest : List Value} {Q : Option Value → Heap → List Loc → Prop}
    (hy1 : y.name = "<init>") (hown : s.vm.findClass own = some m.cls) (w1 : (Jvm.Cond.methodLink own index y).before a0 Z = true) (w4 : (Jvm.Cond.instanceMethod y).before a0 Z = true) (w5 : (Jvm.Cond.code y bytes mx none).before a0 Z = true) (w6 : (Jvm.Cond.initialized y.cls).before a0 Z = true) (hy : y.cls ≠ "java/lang/invoke/MethodHandle" ∧ y.cls ≠ "java/lang/invoke/VarHandle")
    (eT : T.heap = h) (hM : own_Met l Z y bytes mx none [] rm (.ref b :: argsL).toArray h Q) (W : Nat) (hf : rm.frames + 1 ≤ R.frames) (hl : W + (mx + 11) + rm.locals ≤ R.locals) (hcl : cells + rm.cells ≤ R.cells) (hsl : slots + rm.slots ≤ R.slots) (hsz : Ls.size = c.maxLocals) (hlen : ∀ sig, parseMethodDescriptor y.desc = some sig → argsL.length = sig.parameters.length)
    (hst : st = argsL.reverse ++ .ref b :: rest) (hW : (rest.map fun v => v.category).sum ≤ W) (hd : decode c.code pc = .ok (.invokespecial index, 3)) :
    ∃ v T' L, Stand p l e R s m args below meth c T' (locs ++ L) (cells + rm.cells) (slots + rm.slots) ∧ Q v T'.heap L ∧ ∀ t, Steps p.tables e below (T'.setTop (mkF m (pc + 3) Ls (v.toList ++ rest))) t → Steps p.tables e below (T.setTop (mkF m pc Ls st)) t := by
  obtain ⟨v, vm1, ⟨T', L', k', n'⟩, -, X', ⟨L, hQ, l1, l2, l3⟩, stp⟩ := X.specialBack hx (y := y) hy1 hown (mvT hZ w1) (mvT hZ w4) (mvT hZ w5) hy (backOf (W := W) hM hZ w5 w6 hf hl) (g := mkF m pc Ls st) rfl hsz (Steps.refl _) (a := b) (argsL := argsL) (rest := rest) hlen hst (by show 2 * 0 + _ ≤ _; omega) hd (fun _ _ => ⟨rfl, eT, hcl, hsl⟩)
  dsimp only [Pt.U, Pt.locs, Pt.cells, Pt.slots] at X' l1 l2 l3 stp hQ
  subst l1 l2 l3
  exact ⟨v, T', L, X', hQ, fun t k => stp.trans k⟩
end Own
section OwnStart
variable {Z : State} {args : Array Value} {t u : Term} {a : Addr} {C n d : String}
theorem own_eqI {k : Int32} (h : (Jvm.Cond.eq t (.int k)).value args Z none Z [] = some true) : t.eval args Z none [] Z = some (.int k) := by
  simp only [Cond.value, Term.eval] at h
  cases ht : t.eval args Z none [] Z with
  | none => simp [ht] at h
  | some x => cases x <;> simp [ht] at h ⊢; exact h
theorem own_eqJ {k : Int64} (h : (Jvm.Cond.eq t (.long k)).value args Z none Z [] = some true) : t.eval args Z none [] Z = some (.long k) := by
  simp only [Cond.value, Term.eval] at h
  cases ht : t.eval args Z none [] Z with
  | none => simp [ht] at h
  | some x => cases x <;> simp [ht] at h ⊢; exact h
theorem own_fld {v : Value} (ev : t.eval args Z none [] Z = some (.ref a)) (h : (Term.field t C n d).eval args Z none [] Z = some v) : Fld Z Z.heap a C n d v := Fld.start ((fld_at ev).symm.trans h)
theorem own_eqR {b : Addr} (ha : t.eval args Z none [] Z = some (.ref b)) (h : (Jvm.Cond.eq u t).value args Z none Z [] = some true) : u.eval args Z none [] Z = some (.ref b) := by
  cases hu : u.eval args Z none [] Z with
  | none => simp [Cond.value, hu] at h
  | some x => cases x <;> simp [Cond.value, hu, ha] at h ⊢; exact h
theorem own_lenOf {cl : Cell} {ty : FieldType} {k : Int32} (ev : t.eval args Z none [] Z = some (.ref a)) (A : Arr Z Z.heap a cl ty) (h : (Term.length t).eval args Z none [] Z = some (.int k)) : cl.slots.size < 2 ^ 31 ∧ cl.slots.size.toInt32 = k := by
  have q := A.fin (Vm.Alike.refl _)
  by_cases hl : cl.slots.size < 2 ^ 31
  · rw [len_f ev q hl] at h
    exact ⟨hl, by cases h; rfl⟩
  · simp [Term.eval, ev, q, hl] at h
end OwnStart
section OwnArr
variable {p : Program} {l : Launch} {e : Env} {R : Room} {s : State} {m : MethodId} {args : Array Value} {below : List Frame} {meth : Method} {c : Code} {T : State} {locs : List Loc} {cells slots : Nat} {Z : State} {a0 : Array Value} {K : State → Outcome → Prop} {pc pc' : Nat} {Ls : Array Slot} {rest : List Value} {h : Heap}
theorem own_oldge {n0 : Nat} (O : Old Z n0 h) : n0 ≤ h.size := O.1 ▸ O.2.1
theorem own_newR (X : Stand p l e R s m args below meth c T locs cells slots) (hx : p.tables.exec = Jvm.exec) (hZ : Z.Warmed39 s.vm) {own C : String} {index : Nat} (hown : s.vm.findClass own = some m.cls) (w1 : (Jvm.Cond.classLink own index C).before a0 Z = true) (w2 : (Jvm.Cond.arrayOver (.object C)).before a0 Z = true) (eT : T.heap = h)
    (hd : decode c.code pc = .ok (.anewarray index, 3)) {n : Int32} (hn : ¬ n < 0) (cap : Nat) (hcap : n.toNatClampNeg ≤ cap) (hb : cap * 8 ≤ 536870912) (hc : cells + 1 ≤ R.cells) (hl : slots + cap ≤ R.slots) :
    ∃ T' h' b kA, Stand p l e R s m args below meth c T' locs (cells + 1) (slots + cap) ∧ T'.heap = h' ∧ Ext h h' ∧ b = h.size ∧ Arv Z h' b kA (.object C) n (List.replicate cap .null) .null ∧ Ovr Z kA C ∧ ∀ t, Steps p.tables e below (T'.setTop (mkF m (pc + 3) Ls (.ref b :: rest))) t → Steps p.tables e below (T.setTop (mkF m pc Ls (.int n :: rest))) t := by
  obtain ⟨T', h', kA, X', e', E', A', O', st'⟩ := newR X hx hZ hown w1 w2 eT (g := mkF m pc Ls (.int n :: rest)) rfl hd rfl hn hcap hb hc hl
  exact ⟨T', h', h.size, kA, X', e', E', rfl, (Arv.new A' hn).pad (pad_rep [] _ cap), O', st'⟩
theorem own_stR (X : Stand p l e R s m args below meth c T locs cells slots) (hx : p.tables.exec = Jvm.exec) (hZ : Z.Warmed39 s.vm) (eT : T.heap = h) {b y : Addr} {kA : ClassId} {C : String} {n j : Int32} {vs vs' : List Value} (V : Arv Z h b kA (.object C) n vs .null) (O : Ovr Z kA C) (I : Ins Z h y C true) (hj : ¬ j < 0 ∧ j < n) (i : Nat) (hi : j.toNatClampNeg = i) (hil : i < vs.length) (hvs : vs.set i (.ref y) = vs') {n0 : Nat} (N : Fr n0 locs) (g : n0 ≤ b)
    (hd : decode c.code pc = .ok (.aastore, 1)) :
    ∃ T' h' L', Stand p l e R s m args below meth c T' L' cells slots ∧ Fr n0 L' ∧ T'.heap = h' ∧ Wr h h' b i (.ref y) ∧ Arv Z h' b kA (.object C) n vs' .null ∧ ∀ t, Steps p.tables e below (T'.setTop (mkF m (pc + 1) Ls rest)) t → Steps p.tables e below (T.setTop (mkF m pc Ls (.ref y :: .int j :: .ref b :: rest))) t := by
  obtain ⟨cl, A, q, S, Nn, H, G⟩ := V
  subst hvs
  obtain ⟨T', h', X', e', W', st'⟩ := stR X hx hZ eT A (j := j) (inb_of S hj) rfl (Sto.ofV A q O I) (g := mkF m pc Ls (.ref y :: .int j :: .ref b :: rest)) rfl rfl hd
  refine ⟨T', h', _, X', Fr.snoc X' N g, e', hi ▸ W', Arv.set A q S Nn H G rfl W' i hi hil, st'⟩
theorem own_ldR (X : Stand p l e R s m args below meth c T locs cells slots) (hx : p.tables.exec = Jvm.exec) (hZ : Z.Warmed39 s.vm) (eT : T.heap = h) {b : Addr} {kA : ClassId} {ty : FieldType} {n j : Int32} {vs : List Value} {dv v : Value} (V : Arv Z h b kA ty n vs dv) (hty : ty.isReference = true) (hj : ¬ j < 0 ∧ j < n) (hv : vs.getD j.toNatClampNeg dv = v) (hd : decode c.code pc = .ok (.aaload, 1)) :
    ∀ t, Steps p.tables e below (T.setTop (mkF m (pc + 1) Ls (v :: rest))) t → Steps p.tables e below (T.setTop (mkF m pc Ls (.int j :: .ref b :: rest))) t := by
  obtain ⟨cl, A, q, S, Nn, H, G⟩ := V
  intro t k
  exact X.aaload hx (j := j) (v := v) (by rw [eT]; exact A.1) (State.isArrayOf_alike hZ.alike A.2.1) hty A.2.2 (inb_of S hj) (H.at (inb_of S hj) hv) (g := mkF m pc Ls (.int j :: .ref b :: rest)) rfl rfl hd t k
theorem own_len (X : Stand p l e R s m args below meth c T locs cells slots) (hx : p.tables.exec = Jvm.exec) (hZ : Z.Warmed39 s.vm) (eT : T.heap = h) {b : Addr} {kA : ClassId} {ty : FieldType} {n : Int32} {vs : List Value} {dv : Value} (V : Arv Z h b kA ty n vs dv) (hd : decode c.code pc = .ok (.arraylength, 1)) :
    ∀ t, Steps p.tables e below (T.setTop (mkF m (pc + 1) Ls (.int n :: rest))) t → Steps p.tables e below (T.setTop (mkF m pc Ls (.ref b :: rest))) t := by
  obtain ⟨cl, A, q, S, Nn, H, G⟩ := V
  intro t k
  refine X.arraylength hx (by rw [eT]; exact A.1) (State.isArrayOf_alike hZ.alike A.2.1) (g := mkF m pc Ls (.ref b :: rest)) rfl rfl hd t ?_
  rw [len_of S Nn]
  exact k
end OwnArr
theorem own_maskInt (x : Int32) : 0 ≤ (x &&& (2147483647 : Int32)).toInt := by
  have h : (x &&& (2147483647 : Int32)).toBitVec.msb = false := by
    show (x.toBitVec &&& 2147483647#32).msb = false
    rw [BitVec.msb_and]
    have : (2147483647#32).msb = false := by decide
    rw [this, Bool.and_false]
  have h2 : (x &&& (2147483647 : Int32)).toInt = (x &&& (2147483647 : Int32)).toBitVec.toInt := rfl
  rw [h2, BitVec.toInt_eq_toNat_of_msb h]
  omega
theorem own_rem (x n : Int32) (hn : 0 < n.toInt) : ¬ (x &&& (2147483647 : Int32)) % n < 0 ∧ (x &&& (2147483647 : Int32)) % n < n := by
  have h0 := own_maskInt x
  have e0 : (0 : Int32).toInt = 0 := rfl
  rw [Int32.lt_iff_toInt_lt, Int32.lt_iff_toInt_lt, Int32.toInt_mod, e0]
  have h1 := Int.tmod_nonneg n.toInt h0
  have h2 := Int.tmod_lt_of_pos (x &&& (2147483647 : Int32)).toInt hn
  omega
section OwnPrim
variable {p : Program} {l : Launch} {e : Env} {R : Room} {s : State} {m : MethodId} {args : Array Value} {below : List Frame} {meth : Method} {c : Code} {T : State} {locs : List Loc} {cells slots : Nat} {Z : State} {a0 : Array Value} {K : State → Outcome → Prop} {pc pc' : Nat} {Ls : Array Slot} {rest : List Value} {h : Heap}
theorem own_newP (X : Stand p l e R s m args below meth c T locs cells slots) (hx : p.tables.exec = Jvm.exec) (hZ : Z.Warmed39 s.vm) {aty : ArrayType} {ty : FieldType} (hty : newarray.typeOf aty = ty) (w : (Jvm.Cond.arrayClass ty).before a0 Z = true) (eT : T.heap = h)
    (hd : decode c.code pc = .ok (.newarray aty, 2)) {n : Int32} (hn : ¬ n < 0) (cap : Nat) (hcap : n.toNatClampNeg ≤ cap) (hb : cap * 8 ≤ 536870912) (hc : cells + 1 ≤ R.cells) (hl : slots + cap ≤ R.slots) :
    ∃ T' h' b kA, Stand p l e R s m args below meth c T' locs (cells + 1) (slots + cap) ∧ T'.heap = h' ∧ Ext h h' ∧ b = h.size ∧ Arv Z h' b kA ty n (List.replicate cap (defaultValue ty)) (defaultValue ty) ∧ ∀ t, Steps p.tables e below (T'.setTop (mkF m (pc + 2) Ls (.ref b :: rest))) t → Steps p.tables e below (T.setTop (mkF m pc Ls (.int n :: rest))) t := by
  subst hty
  obtain ⟨T', h', kA, X', e', E', A', st'⟩ := newP X hx hZ w eT (g := mkF m pc Ls (.int n :: rest)) rfl hd rfl hn hcap hb hc hl
  exact ⟨T', h', h.size, kA, X', e', E', rfl, (Arv.new A' hn).pad (pad_rep [] _ cap), st'⟩
theorem own_stB (X : Stand p l e R s m args below meth c T locs cells slots) (hx : p.tables.exec = Jvm.exec) (hZ : Z.Warmed39 s.vm) (eT : T.heap = h) {b : Addr} {kA : ClassId} {n j y : Int32} {vs vs' : List Value} {dv : Value} (V : Arv Z h b kA .byte n vs dv) (hy : y.toInt8.toInt32 = y) (hj : ¬ j < 0 ∧ j < n) (i : Nat) (hi : j.toNatClampNeg = i) (hil : i < vs.length) (hvs : vs.set i (.int y) = vs') {n0 : Nat} (N : Fr n0 locs) (g : n0 ≤ b)
    (hd : decode c.code pc = .ok (.bastore, 1)) :
    ∃ T' h' L', Stand p l e R s m args below meth c T' L' cells slots ∧ Fr n0 L' ∧ T'.heap = h' ∧ Wr h h' b i (.int y) ∧ Arv Z h' b kA .byte n vs' dv ∧ ∀ t, Steps p.tables e below (T'.setTop (mkF m (pc + 1) Ls rest)) t → Steps p.tables e below (T.setTop (mkF m pc Ls (.int y :: .int j :: .ref b :: rest))) t := by
  obtain ⟨cl, A, q, S, Nn, H, G⟩ := V
  subst hvs
  obtain ⟨T', h', X', e', W', st'⟩ := stB X hx hZ eT A (j := j) (inb_of S hj) (g := mkF m pc Ls (.int y :: .int j :: .ref b :: rest)) rfl rfl hd
  have hn : nar .byte y = y := hy
  rw [hn] at W'
  refine ⟨T', h', _, X', Fr.snoc X' N g, e', hi ▸ W', Arv.set A q S Nn H G (by have := fits_nar_byte y; rwa [hy] at this) W' i hi hil, st'⟩
theorem own_stJ (X : Stand p l e R s m args below meth c T locs cells slots) (hx : p.tables.exec = Jvm.exec) (hZ : Z.Warmed39 s.vm) (eT : T.heap = h) {b : Addr} {kA : ClassId} {n j : Int32} {y : Int64} {vs vs' : List Value} {dv : Value} (V : Arv Z h b kA .long n vs dv) (hj : ¬ j < 0 ∧ j < n) (i : Nat) (hi : j.toNatClampNeg = i) (hil : i < vs.length) (hvs : vs.set i (.long y) = vs') {n0 : Nat} (N : Fr n0 locs) (g : n0 ≤ b)
    (hd : decode c.code pc = .ok (.lastore, 1)) :
    ∃ T' h' L', Stand p l e R s m args below meth c T' L' cells slots ∧ Fr n0 L' ∧ T'.heap = h' ∧ Wr h h' b i (.long y) ∧ Arv Z h' b kA .long n vs' dv ∧ ∀ t, Steps p.tables e below (T'.setTop (mkF m (pc + 1) Ls rest)) t → Steps p.tables e below (T.setTop (mkF m pc Ls (.long y :: .int j :: .ref b :: rest))) t := by
  obtain ⟨cl, A, q, S, Nn, H, G⟩ := V
  subst hvs
  obtain ⟨T', h', X', e', W', st'⟩ := stJ X hx hZ eT A (j := j) (inb_of S hj) (g := mkF m pc Ls (.long y :: .int j :: .ref b :: rest)) rfl rfl hd
  refine ⟨T', h', _, X', Fr.snoc X' N g, e', hi ▸ W', Arv.set A q S Nn H G rfl W' i hi hil, st'⟩
theorem own_ldB (X : Stand p l e R s m args below meth c T locs cells slots) (hx : p.tables.exec = Jvm.exec) (hZ : Z.Warmed39 s.vm) (eT : T.heap = h) {b : Addr} {kA : ClassId} {n j : Int32} {vs : List Value} {dv v : Value} (V : Arv Z h b kA .byte n vs dv) (hj : ¬ j < 0 ∧ j < n) (hv : vs.getD j.toNatClampNeg dv = v) (hd : decode c.code pc = .ok (.baload, 1)) :
    ∀ t, Steps p.tables e below (T.setTop (mkF m (pc + 1) Ls (v :: rest))) t → Steps p.tables e below (T.setTop (mkF m pc Ls (.int j :: .ref b :: rest))) t := by
  obtain ⟨cl, A, q, S, Nn, H, G⟩ := V
  intro t k
  exact X.baloadBytes hx (j := j) (v := v) (by rw [eT]; exact A.1) (State.isArrayOf_alike hZ.alike A.2.1) A.2.2 (inb_of S hj) (H.at (inb_of S hj) hv) (g := mkF m pc Ls (.int j :: .ref b :: rest)) rfl rfl hd t k
theorem own_ldJ (X : Stand p l e R s m args below meth c T locs cells slots) (hx : p.tables.exec = Jvm.exec) (hZ : Z.Warmed39 s.vm) (eT : T.heap = h) {b : Addr} {kA : ClassId} {n j : Int32} {vs : List Value} {dv v : Value} (V : Arv Z h b kA .long n vs dv) (hj : ¬ j < 0 ∧ j < n) (hv : vs.getD j.toNatClampNeg dv = v) (hd : decode c.code pc = .ok (.laload, 1)) :
    ∀ t, Steps p.tables e below (T.setTop (mkF m (pc + 1) Ls (v :: rest))) t → Steps p.tables e below (T.setTop (mkF m pc Ls (.int j :: .ref b :: rest))) t := by
  obtain ⟨cl, A, q, S, Nn, H, G⟩ := V
  intro t k
  exact X.laload hx (j := j) (v := v) (by rw [eT]; exact A.1) (State.isArrayOf_alike hZ.alike A.2.1) A.2.2 (inb_of S hj) (H.at (inb_of S hj) hv) (g := mkF m pc Ls (.int j :: .ref b :: rest)) rfl rfl hd t k
end OwnPrim
theorem own_b8 (x : Int32) : x.toInt8.toInt32.toInt8.toInt32 = x.toInt8.toInt32 := by simp
theorem own_c5 (i : Int32) (h : ¬ i < 0) (h2 : i < 5) : i = 0 ∨ i = 1 ∨ i = 2 ∨ i = 3 ∨ i = 4 := by
  have e0 : (0 : Int32).toInt = 0 := rfl
  have e1 : (5 : Int32).toInt = 5 := rfl
  rw [Int32.lt_iff_toInt_lt] at h h2
  have h3 : i.toInt = 0 ∨ i.toInt = 1 ∨ i.toInt = 2 ∨ i.toInt = 3 ∨ i.toInt = 4 := by omega
  rcases h3 with q | q | q | q | q
  · exact Or.inl (Int32.toInt_inj.mp q)
  · exact Or.inr (Or.inl (Int32.toInt_inj.mp q))
  · exact Or.inr (Or.inr (Or.inl (Int32.toInt_inj.mp q)))
  · exact Or.inr (Or.inr (Or.inr (Or.inl (Int32.toInt_inj.mp q))))
  · exact Or.inr (Or.inr (Or.inr (Or.inr (Int32.toInt_inj.mp q))))
theorem own_jb {P : Prop} {b x y : Int32} (ht : P → b = x) (hf : ¬ P → b = y) (hx : x.toInt8.toInt32 = x) (hy : y.toInt8.toInt32 = y) : b.toInt8.toInt32 = b := by
  by_cases q : P
  · rw [ht q]; exact hx
  · rw [hf q]; exact hy
theorem own_m0 {b : Int32} (B : b.toInt8.toInt32 = b) : (b &&& (255 : Int32)) = (239 : Int32) ↔ b = -17 := by
  rw [← B]; generalize b.toInt8 = c
  rw [← Int32.toBitVec_inj, ← Int32.toBitVec_inj]
  have e1 : (c.toInt32 &&& (255 : Int32)).toBitVec = c.toBitVec.signExtend 32 &&& 255#32 := rfl
  have e2 : c.toInt32.toBitVec = c.toBitVec.signExtend 32 := rfl
  rw [e1, e2]; generalize c.toBitVec = v; revert v; decide +kernel
theorem own_m1 {b : Int32} (B : b.toInt8.toInt32 = b) : (b &&& (255 : Int32)) = (187 : Int32) ↔ b = -69 := by
  rw [← B]; generalize b.toInt8 = c
  rw [← Int32.toBitVec_inj, ← Int32.toBitVec_inj]
  have e1 : (c.toInt32 &&& (255 : Int32)).toBitVec = c.toBitVec.signExtend 32 &&& 255#32 := rfl
  have e2 : c.toInt32.toBitVec = c.toBitVec.signExtend 32 := rfl
  rw [e1, e2]; generalize c.toBitVec = v; revert v; decide +kernel
theorem own_m2 {b : Int32} (B : b.toInt8.toInt32 = b) : (b &&& (255 : Int32)) = (191 : Int32) ↔ b = -65 := by
  rw [← B]; generalize b.toInt8 = c
  rw [← Int32.toBitVec_inj, ← Int32.toBitVec_inj]
  have e1 : (c.toInt32 &&& (255 : Int32)).toBitVec = c.toBitVec.signExtend 32 &&& 255#32 := rfl
  have e2 : c.toInt32.toBitVec = c.toBitVec.signExtend 32 := rfl
  rw [e1, e2]; generalize c.toBitVec = v; revert v; decide +kernel
theorem own_rem7 (x : Int32) : ¬ (x &&& (7 : Int32)) % (5 : Int32) < 0 ∧ (x &&& (7 : Int32)) % (5 : Int32) < 5 := by
  have h0 : 0 ≤ (x &&& (7 : Int32)).toInt := by
    have h : (x &&& (7 : Int32)).toBitVec.msb = false := by
      show (x.toBitVec &&& 7#32).msb = false
      rw [BitVec.msb_and]
      have : (7#32).msb = false := by decide
      rw [this, Bool.and_false]
    have h2 : (x &&& (7 : Int32)).toInt = (x &&& (7 : Int32)).toBitVec.toInt := rfl
    rw [h2, BitVec.toInt_eq_toNat_of_msb h]
    omega
  have e0 : (0 : Int32).toInt = 0 := rfl
  have e5 : (5 : Int32).toInt = 5 := rfl
  rw [Int32.lt_iff_toInt_lt, Int32.lt_iff_toInt_lt, Int32.toInt_mod, e0, e5]
  have h1 := Int.tmod_nonneg (5 : Int) h0
  have h2 := Int.tmod_lt_of_pos (x &&& (7 : Int32)).toInt (show (0 : Int) < 5 by decide)
  omega
theorem pn_com_example_tallygate_tallygate_codec_Utf8TextAfterByteOrderMarkPinLaw : plainName "com/example/tallygate/tallygate/codec/Utf8TextAfterByteOrderMarkPinLaw" = true := by first | (simp [plainName, overriddenIn]; done) | decide +kernel
theorem ef_1_0 (m : MethodId) (x0 : Int32) (x1 : Int32) (x2 : Int32) (x3 : Int32) (x4 : Int32) : entryFrame m #[(.int x0), (.int x1), (.int x2), (.int x3), (.int x4)] 5 = mkF m 0 #[.val (.int x0), .val (.int x1), .val (.int x2), .val (.int x3), .val (.int x4)] [] := by first | (simp [entryFrame, mkF, argsToLocals, Value.category]; done) | rfl
theorem d1_0 : decode method_2_code 0 = .ok (.iload_n 0, 1) := by decide +kernel
theorem d1_1 : decode method_2_code 1 = .ok (.ifCond .ne 7, 3) := by decide +kernel
theorem d1_4 : decode method_2_code 4 = .ok (.iconst 0, 1) := by decide +kernel
theorem d1_5 : decode method_2_code 5 = .ok (.newarray .byte, 2) := by decide +kernel
theorem d1_7 : decode method_2_code 7 = .ok (.areturn, 1) := by decide +kernel
theorem ef_1_1 (m : MethodId) (x0 : Int32) (x1 : Int32) (x2 : Int32) (x3 : Int32) (x4 : Int32) : entryFrame m #[(.int x0), (.int x1), (.int x2), (.int x3), (.int x4)] 5 = mkF m 0 #[.val (.int x0), .val (.int x1), .val (.int x2), .val (.int x3), .val (.int x4)] [] := by first | (simp [entryFrame, mkF, argsToLocals, Value.category]; done) | rfl
theorem d1_8 : decode method_2_code 8 = .ok (.iload_n 0, 1) := by decide +kernel
theorem d1_9 : decode method_2_code 9 = .ok (.iconst 1, 1) := by decide +kernel
theorem d1_10 : decode method_2_code 10 = .ok (.if_icmp .ne 11, 3) := by decide +kernel
theorem d1_13 : decode method_2_code 13 = .ok (.iconst 1, 1) := by decide +kernel
theorem d1_14 : decode method_2_code 14 = .ok (.newarray .byte, 2) := by decide +kernel
theorem d1_16 : decode method_2_code 16 = .ok (.dup, 1) := by decide +kernel
theorem d1_17 : decode method_2_code 17 = .ok (.iconst 0, 1) := by decide +kernel
theorem d1_18 : decode method_2_code 18 = .ok (.iload_n 1, 1) := by decide +kernel
theorem d1_19 : decode method_2_code 19 = .ok (.bastore, 1) := by decide +kernel
theorem d1_20 : decode method_2_code 20 = .ok (.areturn, 1) := by decide +kernel
theorem ef_1_2 (m : MethodId) (x0 : Int32) (x1 : Int32) (x2 : Int32) (x3 : Int32) (x4 : Int32) : entryFrame m #[(.int x0), (.int x1), (.int x2), (.int x3), (.int x4)] 5 = mkF m 0 #[.val (.int x0), .val (.int x1), .val (.int x2), .val (.int x3), .val (.int x4)] [] := by first | (simp [entryFrame, mkF, argsToLocals, Value.category]; done) | rfl
theorem d1_21 : decode method_2_code 21 = .ok (.iload_n 0, 1) := by decide +kernel
theorem d1_22 : decode method_2_code 22 = .ok (.iconst 2, 1) := by decide +kernel
theorem d1_23 : decode method_2_code 23 = .ok (.if_icmp .ne 15, 3) := by decide +kernel
theorem d1_26 : decode method_2_code 26 = .ok (.iconst 2, 1) := by decide +kernel
theorem d1_27 : decode method_2_code 27 = .ok (.newarray .byte, 2) := by decide +kernel
theorem d1_29 : decode method_2_code 29 = .ok (.dup, 1) := by decide +kernel
theorem d1_30 : decode method_2_code 30 = .ok (.iconst 0, 1) := by decide +kernel
theorem d1_31 : decode method_2_code 31 = .ok (.iload_n 1, 1) := by decide +kernel
theorem d1_32 : decode method_2_code 32 = .ok (.bastore, 1) := by decide +kernel
theorem d1_33 : decode method_2_code 33 = .ok (.dup, 1) := by decide +kernel
theorem d1_34 : decode method_2_code 34 = .ok (.iconst 1, 1) := by decide +kernel
theorem d1_35 : decode method_2_code 35 = .ok (.iload_n 2, 1) := by decide +kernel
theorem d1_36 : decode method_2_code 36 = .ok (.bastore, 1) := by decide +kernel
theorem d1_37 : decode method_2_code 37 = .ok (.areturn, 1) := by decide +kernel
theorem ef_1_3 (m : MethodId) (x0 : Int32) (x1 : Int32) (x2 : Int32) (x3 : Int32) (x4 : Int32) : entryFrame m #[(.int x0), (.int x1), (.int x2), (.int x3), (.int x4)] 5 = mkF m 0 #[.val (.int x0), .val (.int x1), .val (.int x2), .val (.int x3), .val (.int x4)] [] := by first | (simp [entryFrame, mkF, argsToLocals, Value.category]; done) | rfl
theorem d1_38 : decode method_2_code 38 = .ok (.iload_n 0, 1) := by decide +kernel
theorem d1_39 : decode method_2_code 39 = .ok (.iconst 3, 1) := by decide +kernel
theorem d1_40 : decode method_2_code 40 = .ok (.if_icmp .ne 19, 3) := by decide +kernel
theorem d1_43 : decode method_2_code 43 = .ok (.iconst 3, 1) := by decide +kernel
theorem d1_44 : decode method_2_code 44 = .ok (.newarray .byte, 2) := by decide +kernel
theorem d1_46 : decode method_2_code 46 = .ok (.dup, 1) := by decide +kernel
theorem d1_47 : decode method_2_code 47 = .ok (.iconst 0, 1) := by decide +kernel
theorem d1_48 : decode method_2_code 48 = .ok (.iload_n 1, 1) := by decide +kernel
theorem d1_49 : decode method_2_code 49 = .ok (.bastore, 1) := by decide +kernel
theorem d1_50 : decode method_2_code 50 = .ok (.dup, 1) := by decide +kernel
theorem d1_51 : decode method_2_code 51 = .ok (.iconst 1, 1) := by decide +kernel
theorem d1_52 : decode method_2_code 52 = .ok (.iload_n 2, 1) := by decide +kernel
theorem d1_53 : decode method_2_code 53 = .ok (.bastore, 1) := by decide +kernel
theorem d1_54 : decode method_2_code 54 = .ok (.dup, 1) := by decide +kernel
theorem d1_55 : decode method_2_code 55 = .ok (.iconst 2, 1) := by decide +kernel
theorem d1_56 : decode method_2_code 56 = .ok (.iload_n 3, 1) := by decide +kernel
theorem d1_57 : decode method_2_code 57 = .ok (.bastore, 1) := by decide +kernel
theorem d1_58 : decode method_2_code 58 = .ok (.areturn, 1) := by decide +kernel
theorem ef_1_4 (m : MethodId) (x0 : Int32) (x1 : Int32) (x2 : Int32) (x3 : Int32) (x4 : Int32) : entryFrame m #[(.int x0), (.int x1), (.int x2), (.int x3), (.int x4)] 5 = mkF m 0 #[.val (.int x0), .val (.int x1), .val (.int x2), .val (.int x3), .val (.int x4)] [] := by first | (simp [entryFrame, mkF, argsToLocals, Value.category]; done) | rfl
theorem d1_59 : decode method_2_code 59 = .ok (.iconst 4, 1) := by decide +kernel
theorem d1_60 : decode method_2_code 60 = .ok (.newarray .byte, 2) := by decide +kernel
theorem d1_62 : decode method_2_code 62 = .ok (.dup, 1) := by decide +kernel
theorem d1_63 : decode method_2_code 63 = .ok (.iconst 0, 1) := by decide +kernel
theorem d1_64 : decode method_2_code 64 = .ok (.iload_n 1, 1) := by decide +kernel
theorem d1_65 : decode method_2_code 65 = .ok (.bastore, 1) := by decide +kernel
theorem d1_66 : decode method_2_code 66 = .ok (.dup, 1) := by decide +kernel
theorem d1_67 : decode method_2_code 67 = .ok (.iconst 1, 1) := by decide +kernel
theorem d1_68 : decode method_2_code 68 = .ok (.iload_n 2, 1) := by decide +kernel
theorem d1_69 : decode method_2_code 69 = .ok (.bastore, 1) := by decide +kernel
theorem d1_70 : decode method_2_code 70 = .ok (.dup, 1) := by decide +kernel
theorem d1_71 : decode method_2_code 71 = .ok (.iconst 2, 1) := by decide +kernel
theorem d1_72 : decode method_2_code 72 = .ok (.iload_n 3, 1) := by decide +kernel
theorem d1_73 : decode method_2_code 73 = .ok (.bastore, 1) := by decide +kernel
theorem d1_74 : decode method_2_code 74 = .ok (.dup, 1) := by decide +kernel
theorem d1_75 : decode method_2_code 75 = .ok (.iconst 3, 1) := by decide +kernel
theorem d1_76 : decode method_2_code 76 = .ok (.iload 4, 2) := by decide +kernel
theorem d1_78 : decode method_2_code 78 = .ok (.bastore, 1) := by decide +kernel
theorem d1_79 : decode method_2_code 79 = .ok (.areturn, 1) := by decide +kernel
theorem pn_com_example_tallygate_tallygate_codec_Utf8Text : plainName "com/example/tallygate/tallygate/codec/Utf8Text" = true := by first | (simp [plainName, overriddenIn]; done) | decide +kernel
theorem ef_2 (m : MethodId) (x0 : Addr) : entryFrame m #[(.ref x0)] 3 = mkF m 0 #[.val (.ref x0), .unset, .unset] [] := by first | (simp [entryFrame, mkF, argsToLocals, Value.category]; done) | rfl
theorem d2_0 : decode prog_16_method_2_code 0 = .ok (.aload_n 0, 1) := by decide +kernel
theorem d2_1 : decode prog_16_method_2_code 1 = .ok (.arraylength, 1) := by decide +kernel
theorem d2_2 : decode prog_16_method_2_code 2 = .ok (.getstatic 7, 3) := by decide +kernel
theorem d2_5 : decode prog_16_method_2_code 5 = .ok (.arraylength, 1) := by decide +kernel
theorem d2_6 : decode prog_16_method_2_code 6 = .ok (.if_icmp .lt 7, 3) := by decide +kernel
theorem d2_13 : decode prog_16_method_2_code 13 = .ok (.iconst 0, 1) := by decide +kernel
theorem d2_14 : decode prog_16_method_2_code 14 = .ok (.istore_n 1, 1) := by decide +kernel
theorem d2_15 : decode prog_16_method_2_code 15 = .ok (.iconst 0, 1) := by decide +kernel
theorem d2_16 : decode prog_16_method_2_code 16 = .ok (.istore_n 2, 1) := by decide +kernel
theorem d2_17 : decode prog_16_method_2_code 17 = .ok (.iload_n 2, 1) := by decide +kernel
theorem d2_18 : decode prog_16_method_2_code 18 = .ok (.getstatic 7, 3) := by decide +kernel
theorem d2_21 : decode prog_16_method_2_code 21 = .ok (.arraylength, 1) := by decide +kernel
theorem d2_22 : decode prog_16_method_2_code 22 = .ok (.if_icmp .ge 30, 3) := by decide +kernel
theorem d2_25 : decode prog_16_method_2_code 25 = .ok (.iload_n 1, 1) := by decide +kernel
theorem d2_26 : decode prog_16_method_2_code 26 = .ok (.ifCond .eq 26, 3) := by decide +kernel
theorem d2_52 : decode prog_16_method_2_code 52 = .ok (.iload_n 1, 1) := by decide +kernel
theorem d2_53 : decode prog_16_method_2_code 53 = .ok (.ifCond .eq 10, 3) := by decide +kernel
theorem d2_63 : decode prog_16_method_2_code 63 = .ok (.iconst 0, 1) := by decide +kernel
theorem d2_64 : decode prog_16_method_2_code 64 = .ok (.ireturn, 1) := by decide +kernel
theorem d2_9 : decode prog_16_method_2_code 9 = .ok (.iconst 1, 1) := by decide +kernel
theorem d2_10 : decode prog_16_method_2_code 10 = .ok (.goto 4, 3) := by decide +kernel
theorem d2_29 : decode prog_16_method_2_code 29 = .ok (.aload_n 0, 1) := by decide +kernel
theorem d2_30 : decode prog_16_method_2_code 30 = .ok (.iload_n 2, 1) := by decide +kernel
theorem d2_31 : decode prog_16_method_2_code 31 = .ok (.baload, 1) := by decide +kernel
theorem d2_32 : decode prog_16_method_2_code 32 = .ok (.getstatic 7, 3) := by decide +kernel
theorem d2_35 : decode prog_16_method_2_code 35 = .ok (.iload_n 2, 1) := by decide +kernel
theorem d2_36 : decode prog_16_method_2_code 36 = .ok (.baload, 1) := by decide +kernel
theorem d2_37 : decode prog_16_method_2_code 37 = .ok (.if_icmp .ne 7, 3) := by decide +kernel
theorem d2_40 : decode prog_16_method_2_code 40 = .ok (.iconst 1, 1) := by decide +kernel
theorem d2_41 : decode prog_16_method_2_code 41 = .ok (.goto 4, 3) := by decide +kernel
theorem d2_45 : decode prog_16_method_2_code 45 = .ok (.istore_n 1, 1) := by decide +kernel
theorem d2_46 : decode prog_16_method_2_code 46 = .ok (.iinc 2 1, 3) := by decide +kernel
theorem d2_49 : decode prog_16_method_2_code 49 = .ok (.goto (-32), 3) := by decide +kernel
theorem d2_56 : decode prog_16_method_2_code 56 = .ok (.getstatic 7, 3) := by decide +kernel
theorem d2_59 : decode prog_16_method_2_code 59 = .ok (.arraylength, 1) := by decide +kernel
theorem d2_60 : decode prog_16_method_2_code 60 = .ok (.goto 4, 3) := by decide +kernel
theorem d2_44 : decode prog_16_method_2_code 44 = .ok (.iconst 0, 1) := by decide +kernel
theorem ef_0 (m : MethodId) (x0 : Int32) (x1 : Int32) : entryFrame m #[(.int x0), (.int x1)] maxLocals = mkF m 0 #[.val (.int x0), .val (.int x1), .unset, .unset, .unset, .unset, .unset, .unset, .unset, .unset] [] := by first | (simp [entryFrame, mkF, argsToLocals, Value.category, maxLocals]; done) | rfl
theorem pd_0 : parseMethodDescriptor "(IBBBB)[B" = some ⟨[.int, .byte, .byte, .byte, .byte], some (.array .byte)⟩ := by decide +kernel
theorem pd_2 : parseMethodDescriptor "([B)I" = some ⟨[(.array .byte)], some .int⟩ := by decide +kernel
set_option maxRecDepth 65536 in
set_option maxHeartbeats 40000000 in
theorem rm1_0 (l : Launch) (Z : State) (a0 : Array Value) (hw : ∀ d ∈ tables_1, d.before a0 Z = true) (ws : List Jvm.Cond) (x0 : Int32) (x1 : Int32) (x2 : Int32) (x3 : Int32) (h0 : Heap) (n0 : Nat) (Z0 : n0 ≤ h0.size) (O0 : Old Z n0 h0) (B0 : x0.toInt8.toInt32 = x0) (B1 : x1.toInt8.toInt32 = x1) (B2 : x2.toInt8.toInt32 = x2) (B3 : x3.toInt8.toInt32 = x3) :
    own_Met l Z (⟨"com/example/tallygate/tallygate/codec/Utf8TextAfterByteOrderMarkPinLaw", "pick", "(IBBBB)[B"⟩ : MethodName) method_2_code 5 (some (.array .byte)) ws ({ frames := 0, cells := 1, slots := 0, locals := 0 } : Room) #[(.int (0 : Int32)), (.int x0), (.int x1), (.int x2), (.int x3)] h0 (fun v h L => (∃ (b : Addr) (kA : ClassId), v = some (.ref b) ∧ n0 ≤ b ∧ Old Z n0 h ∧ Arv Z h b kA .byte (0 : Int32) [] (.int 0)) ∧ Fr n0 L) := by
  refine own_body (by first | exact plainFor_of_name pn_com_example_tallygate_tallygate_codec_Utf8TextAfterByteOrderMarkPinLaw | decide +kernel) ?_
  intro p e s m below meth c T0 X0 hx hby hml hret hlk hZ hown hnm e0
  have hown : s.vm.findClass "com/example/tallygate/tallygate/codec/Utf8TextAfterByteOrderMarkPinLaw" = some m.cls := hown
  have hnm : meth.name = "pick" := hnm
  have N0 := Fr.nil n0
  rw [ef_1_0 m (0 : Int32) x0 x1 x2 x3]
  show own_Go p e below _ T0 (mkF m 0 #[.val (.int (0 : Int32)), .val (.int x0), .val (.int x1), .val (.int x2), .val (.int x3)] [])
  refine own_go (fun t k => XS.iloadN X0.here hx rfl (hb hby d1_0) rfl k) ?_
  show own_Go p e below _ T0 (mkF m 1 #[.val (.int (0 : Int32)), .val (.int x0), .val (.int x1), .val (.int x2), .val (.int x3)] [(.int (0 : Int32))])
  refine own_go (fun t k => XS.ifNo X0.here hx rfl (hb hby d1_1) rfl (XT.i0_ne_f (by decide)) k) ?_
  show own_Go p e below _ T0 (mkF m 4 #[.val (.int (0 : Int32)), .val (.int x0), .val (.int x1), .val (.int x2), .val (.int x3)] [])
  refine own_go (fun t k => XS.iconst X0.here hx rfl (hb hby d1_4) k) ?_
  show own_Go p e below _ T0 (mkF m 5 #[.val (.int (0 : Int32)), .val (.int x0), .val (.int x1), .val (.int x2), .val (.int x3)] [(.int (0 : Int32))])
  obtain ⟨T1, h1, b1, k1, X1, e1, E1, g1, V1, st1⟩ := own_newP X0 hx hZ rfl (own_w hw 4 rfl) e0 (Ls := #[.val (.int (0 : Int32)), .val (.int x0), .val (.int x1), .val (.int x2), .val (.int x3)]) (rest := []) (hb hby d1_5) (n := (0 : Int32)) (by decide) 0 (by decide) (by decide) (by decide) (by decide)
  have ge_b1 : n0 ≤ b1 := g1 ▸ own_oldge O0
  have old1 := O0.ext E1
  have V1 : Arv Z h1 b1 k1 .byte (0 : Int32) [] (.int (0 : Int32)) := V1
  refine own_go st1 ?_
  show own_Go p e below _ T1 (mkF m 7 #[.val (.int (0 : Int32)), .val (.int x0), .val (.int x1), .val (.int x2), .val (.int x3)] [(.ref b1)])
  refine own_retA X1 hx hlk hret (hb hby d1_7) rfl rfl (by decide) (by decide) ?_
  exact ⟨⟨b1, k1, rfl, ge_b1, by rw [e1]; exact old1, by rw [e1]; exact V1⟩, N0⟩
set_option maxRecDepth 65536 in
set_option maxHeartbeats 40000000 in
theorem rm1_1 (l : Launch) (Z : State) (a0 : Array Value) (hw : ∀ d ∈ tables_1, d.before a0 Z = true) (ws : List Jvm.Cond) (x0 : Int32) (x1 : Int32) (x2 : Int32) (x3 : Int32) (h0 : Heap) (n0 : Nat) (Z0 : n0 ≤ h0.size) (O0 : Old Z n0 h0) (B0 : x0.toInt8.toInt32 = x0) (B1 : x1.toInt8.toInt32 = x1) (B2 : x2.toInt8.toInt32 = x2) (B3 : x3.toInt8.toInt32 = x3) :
    own_Met l Z (⟨"com/example/tallygate/tallygate/codec/Utf8TextAfterByteOrderMarkPinLaw", "pick", "(IBBBB)[B"⟩ : MethodName) method_2_code 5 (some (.array .byte)) ws ({ frames := 0, cells := 1, slots := 1, locals := 0 } : Room) #[(.int (1 : Int32)), (.int x0), (.int x1), (.int x2), (.int x3)] h0 (fun v h L => (∃ (b : Addr) (kA : ClassId), v = some (.ref b) ∧ n0 ≤ b ∧ Old Z n0 h ∧ Arv Z h b kA .byte (1 : Int32) [(.int x0)] (.int 0)) ∧ Fr n0 L) := by
  refine own_body (by first | exact plainFor_of_name pn_com_example_tallygate_tallygate_codec_Utf8TextAfterByteOrderMarkPinLaw | decide +kernel) ?_
  intro p e s m below meth c T0 X0 hx hby hml hret hlk hZ hown hnm e0
  have hown : s.vm.findClass "com/example/tallygate/tallygate/codec/Utf8TextAfterByteOrderMarkPinLaw" = some m.cls := hown
  have hnm : meth.name = "pick" := hnm
  have N0 := Fr.nil n0
  rw [ef_1_1 m (1 : Int32) x0 x1 x2 x3]
  show own_Go p e below _ T0 (mkF m 0 #[.val (.int (1 : Int32)), .val (.int x0), .val (.int x1), .val (.int x2), .val (.int x3)] [])
  refine own_go (fun t k => XS.iloadN X0.here hx rfl (hb hby d1_0) rfl k) ?_
  show own_Go p e below _ T0 (mkF m 1 #[.val (.int (1 : Int32)), .val (.int x0), .val (.int x1), .val (.int x2), .val (.int x3)] [(.int (1 : Int32))])
  refine own_go (fun t k => XS.ifYes X0.here hx rfl (pc0 := 1) (pc' := 8) rfl (hb hby d1_1) rfl (XT.i0_ne_t (by decide)) (by decide) (by decide) k) ?_
  show own_Go p e below _ T0 (mkF m 8 #[.val (.int (1 : Int32)), .val (.int x0), .val (.int x1), .val (.int x2), .val (.int x3)] [])
  refine own_go (fun t k => XS.iloadN X0.here hx rfl (hb hby d1_8) rfl k) ?_
  show own_Go p e below _ T0 (mkF m 9 #[.val (.int (1 : Int32)), .val (.int x0), .val (.int x1), .val (.int x2), .val (.int x3)] [(.int (1 : Int32))])
  refine own_go (fun t k => XS.iconst X0.here hx rfl (hb hby d1_9) k) ?_
  show own_Go p e below _ T0 (mkF m 10 #[.val (.int (1 : Int32)), .val (.int x0), .val (.int x1), .val (.int x2), .val (.int x3)] [(.int (1 : Int32)), (.int (1 : Int32))])
  refine own_go (fun t k => XS.icmpNo X0.here hx rfl (hb hby d1_10) rfl (XT.ii_ne_f (by decide)) k) ?_
  show own_Go p e below _ T0 (mkF m 13 #[.val (.int (1 : Int32)), .val (.int x0), .val (.int x1), .val (.int x2), .val (.int x3)] [])
  refine own_go (fun t k => XS.iconst X0.here hx rfl (hb hby d1_13) k) ?_
  show own_Go p e below _ T0 (mkF m 14 #[.val (.int (1 : Int32)), .val (.int x0), .val (.int x1), .val (.int x2), .val (.int x3)] [(.int (1 : Int32))])
  obtain ⟨T1, h1, b1, k1, X1, e1, E1, g1, V1, st1⟩ := own_newP X0 hx hZ rfl (own_w hw 4 rfl) e0 (Ls := #[.val (.int (1 : Int32)), .val (.int x0), .val (.int x1), .val (.int x2), .val (.int x3)]) (rest := []) (hb hby d1_14) (n := (1 : Int32)) (by decide) 1 (by decide) (by decide) (by decide) (by decide)
  have ge_b1 : n0 ≤ b1 := g1 ▸ own_oldge O0
  have old1 := O0.ext E1
  have V1 : Arv Z h1 b1 k1 .byte (1 : Int32) [(.int (0 : Int32))] (.int (0 : Int32)) := V1
  refine own_go st1 ?_
  show own_Go p e below _ T1 (mkF m 16 #[.val (.int (1 : Int32)), .val (.int x0), .val (.int x1), .val (.int x2), .val (.int x3)] [(.ref b1)])
  refine own_go (fun t k => XS.dup X1.here hx rfl (hb hby d1_16) rfl rfl k) ?_
  show own_Go p e below _ T1 (mkF m 17 #[.val (.int (1 : Int32)), .val (.int x0), .val (.int x1), .val (.int x2), .val (.int x3)] [(.ref b1), (.ref b1)])
  refine own_go (fun t k => XS.iconst X1.here hx rfl (hb hby d1_17) k) ?_
  show own_Go p e below _ T1 (mkF m 18 #[.val (.int (1 : Int32)), .val (.int x0), .val (.int x1), .val (.int x2), .val (.int x3)] [(.int (0 : Int32)), (.ref b1), (.ref b1)])
  refine own_go (fun t k => XS.iloadN X1.here hx rfl (hb hby d1_18) rfl k) ?_
  show own_Go p e below _ T1 (mkF m 19 #[.val (.int (1 : Int32)), .val (.int x0), .val (.int x1), .val (.int x2), .val (.int x3)] [(.int x0), (.int (0 : Int32)), (.ref b1), (.ref b1)])
  obtain ⟨T2, h2, L2, X2, N2, e2, W2, V2, st2⟩ := own_stB X1 hx hZ e1 (j := (0 : Int32)) (vs' := [(.int x0)]) V1 B0 (by decide) 0 rfl (Nat.le_of_ble_eq_true rfl) rfl N0 ge_b1 (Ls := #[.val (.int (1 : Int32)), .val (.int x0), .val (.int x1), .val (.int x2), .val (.int x3)]) (rest := [(.ref b1)]) (hb hby d1_19)
  have old2 := old1.wr W2 ge_b1
  refine own_go st2 ?_
  show own_Go p e below _ T2 (mkF m 20 #[.val (.int (1 : Int32)), .val (.int x0), .val (.int x1), .val (.int x2), .val (.int x3)] [(.ref b1)])
  refine own_retA X2 hx hlk hret (hb hby d1_20) rfl rfl (by decide) (by decide) ?_
  exact ⟨⟨b1, k1, rfl, ge_b1, by rw [e2]; exact old2, by rw [e2]; exact V2⟩, N2⟩
set_option maxRecDepth 65536 in
set_option maxHeartbeats 40000000 in
theorem rm1_2 (l : Launch) (Z : State) (a0 : Array Value) (hw : ∀ d ∈ tables_1, d.before a0 Z = true) (ws : List Jvm.Cond) (x0 : Int32) (x1 : Int32) (x2 : Int32) (x3 : Int32) (h0 : Heap) (n0 : Nat) (Z0 : n0 ≤ h0.size) (O0 : Old Z n0 h0) (B0 : x0.toInt8.toInt32 = x0) (B1 : x1.toInt8.toInt32 = x1) (B2 : x2.toInt8.toInt32 = x2) (B3 : x3.toInt8.toInt32 = x3) :
    own_Met l Z (⟨"com/example/tallygate/tallygate/codec/Utf8TextAfterByteOrderMarkPinLaw", "pick", "(IBBBB)[B"⟩ : MethodName) method_2_code 5 (some (.array .byte)) ws ({ frames := 0, cells := 1, slots := 2, locals := 0 } : Room) #[(.int (2 : Int32)), (.int x0), (.int x1), (.int x2), (.int x3)] h0 (fun v h L => (∃ (b : Addr) (kA : ClassId), v = some (.ref b) ∧ n0 ≤ b ∧ Old Z n0 h ∧ Arv Z h b kA .byte (2 : Int32) [(.int x0), (.int x1)] (.int 0)) ∧ Fr n0 L) := by
  refine own_body (by first | exact plainFor_of_name pn_com_example_tallygate_tallygate_codec_Utf8TextAfterByteOrderMarkPinLaw | decide +kernel) ?_
  intro p e s m below meth c T0 X0 hx hby hml hret hlk hZ hown hnm e0
  have hown : s.vm.findClass "com/example/tallygate/tallygate/codec/Utf8TextAfterByteOrderMarkPinLaw" = some m.cls := hown
  have hnm : meth.name = "pick" := hnm
  have N0 := Fr.nil n0
  rw [ef_1_2 m (2 : Int32) x0 x1 x2 x3]
  show own_Go p e below _ T0 (mkF m 0 #[.val (.int (2 : Int32)), .val (.int x0), .val (.int x1), .val (.int x2), .val (.int x3)] [])
  refine own_go (fun t k => XS.iloadN X0.here hx rfl (hb hby d1_0) rfl k) ?_
  show own_Go p e below _ T0 (mkF m 1 #[.val (.int (2 : Int32)), .val (.int x0), .val (.int x1), .val (.int x2), .val (.int x3)] [(.int (2 : Int32))])
  refine own_go (fun t k => XS.ifYes X0.here hx rfl (pc0 := 1) (pc' := 8) rfl (hb hby d1_1) rfl (XT.i0_ne_t (by decide)) (by decide) (by decide) k) ?_
  show own_Go p e below _ T0 (mkF m 8 #[.val (.int (2 : Int32)), .val (.int x0), .val (.int x1), .val (.int x2), .val (.int x3)] [])
  refine own_go (fun t k => XS.iloadN X0.here hx rfl (hb hby d1_8) rfl k) ?_
  show own_Go p e below _ T0 (mkF m 9 #[.val (.int (2 : Int32)), .val (.int x0), .val (.int x1), .val (.int x2), .val (.int x3)] [(.int (2 : Int32))])
  refine own_go (fun t k => XS.iconst X0.here hx rfl (hb hby d1_9) k) ?_
  show own_Go p e below _ T0 (mkF m 10 #[.val (.int (2 : Int32)), .val (.int x0), .val (.int x1), .val (.int x2), .val (.int x3)] [(.int (1 : Int32)), (.int (2 : Int32))])
  refine own_go (fun t k => XS.icmpYes X0.here hx rfl (pc0 := 10) (pc' := 21) rfl (hb hby d1_10) rfl (XT.ii_ne_t (by decide)) (by decide) (by decide) k) ?_
  show own_Go p e below _ T0 (mkF m 21 #[.val (.int (2 : Int32)), .val (.int x0), .val (.int x1), .val (.int x2), .val (.int x3)] [])
  refine own_go (fun t k => XS.iloadN X0.here hx rfl (hb hby d1_21) rfl k) ?_
  show own_Go p e below _ T0 (mkF m 22 #[.val (.int (2 : Int32)), .val (.int x0), .val (.int x1), .val (.int x2), .val (.int x3)] [(.int (2 : Int32))])
  refine own_go (fun t k => XS.iconst X0.here hx rfl (hb hby d1_22) k) ?_
  show own_Go p e below _ T0 (mkF m 23 #[.val (.int (2 : Int32)), .val (.int x0), .val (.int x1), .val (.int x2), .val (.int x3)] [(.int (2 : Int32)), (.int (2 : Int32))])
  refine own_go (fun t k => XS.icmpNo X0.here hx rfl (hb hby d1_23) rfl (XT.ii_ne_f (by decide)) k) ?_
  show own_Go p e below _ T0 (mkF m 26 #[.val (.int (2 : Int32)), .val (.int x0), .val (.int x1), .val (.int x2), .val (.int x3)] [])
  refine own_go (fun t k => XS.iconst X0.here hx rfl (hb hby d1_26) k) ?_
  show own_Go p e below _ T0 (mkF m 27 #[.val (.int (2 : Int32)), .val (.int x0), .val (.int x1), .val (.int x2), .val (.int x3)] [(.int (2 : Int32))])
  obtain ⟨T1, h1, b1, k1, X1, e1, E1, g1, V1, st1⟩ := own_newP X0 hx hZ rfl (own_w hw 4 rfl) e0 (Ls := #[.val (.int (2 : Int32)), .val (.int x0), .val (.int x1), .val (.int x2), .val (.int x3)]) (rest := []) (hb hby d1_27) (n := (2 : Int32)) (by decide) 2 (by decide) (by decide) (by decide) (by decide)
  have ge_b1 : n0 ≤ b1 := g1 ▸ own_oldge O0
  have old1 := O0.ext E1
  have V1 : Arv Z h1 b1 k1 .byte (2 : Int32) [(.int (0 : Int32)), (.int (0 : Int32))] (.int (0 : Int32)) := V1
  refine own_go st1 ?_
  show own_Go p e below _ T1 (mkF m 29 #[.val (.int (2 : Int32)), .val (.int x0), .val (.int x1), .val (.int x2), .val (.int x3)] [(.ref b1)])
  refine own_go (fun t k => XS.dup X1.here hx rfl (hb hby d1_29) rfl rfl k) ?_
  show own_Go p e below _ T1 (mkF m 30 #[.val (.int (2 : Int32)), .val (.int x0), .val (.int x1), .val (.int x2), .val (.int x3)] [(.ref b1), (.ref b1)])
  refine own_go (fun t k => XS.iconst X1.here hx rfl (hb hby d1_30) k) ?_
  show own_Go p e below _ T1 (mkF m 31 #[.val (.int (2 : Int32)), .val (.int x0), .val (.int x1), .val (.int x2), .val (.int x3)] [(.int (0 : Int32)), (.ref b1), (.ref b1)])
  refine own_go (fun t k => XS.iloadN X1.here hx rfl (hb hby d1_31) rfl k) ?_
  show own_Go p e below _ T1 (mkF m 32 #[.val (.int (2 : Int32)), .val (.int x0), .val (.int x1), .val (.int x2), .val (.int x3)] [(.int x0), (.int (0 : Int32)), (.ref b1), (.ref b1)])
  obtain ⟨T2, h2, L2, X2, N2, e2, W2, V2, st2⟩ := own_stB X1 hx hZ e1 (j := (0 : Int32)) (vs' := [(.int x0), (.int (0 : Int32))]) V1 B0 (by decide) 0 rfl (Nat.le_of_ble_eq_true rfl) rfl N0 ge_b1 (Ls := #[.val (.int (2 : Int32)), .val (.int x0), .val (.int x1), .val (.int x2), .val (.int x3)]) (rest := [(.ref b1)]) (hb hby d1_32)
  have old2 := old1.wr W2 ge_b1
  refine own_go st2 ?_
  show own_Go p e below _ T2 (mkF m 33 #[.val (.int (2 : Int32)), .val (.int x0), .val (.int x1), .val (.int x2), .val (.int x3)] [(.ref b1)])
  refine own_go (fun t k => XS.dup X2.here hx rfl (hb hby d1_33) rfl rfl k) ?_
  show own_Go p e below _ T2 (mkF m 34 #[.val (.int (2 : Int32)), .val (.int x0), .val (.int x1), .val (.int x2), .val (.int x3)] [(.ref b1), (.ref b1)])
  refine own_go (fun t k => XS.iconst X2.here hx rfl (hb hby d1_34) k) ?_
  show own_Go p e below _ T2 (mkF m 35 #[.val (.int (2 : Int32)), .val (.int x0), .val (.int x1), .val (.int x2), .val (.int x3)] [(.int (1 : Int32)), (.ref b1), (.ref b1)])
  refine own_go (fun t k => XS.iloadN X2.here hx rfl (hb hby d1_35) rfl k) ?_
  show own_Go p e below _ T2 (mkF m 36 #[.val (.int (2 : Int32)), .val (.int x0), .val (.int x1), .val (.int x2), .val (.int x3)] [(.int x1), (.int (1 : Int32)), (.ref b1), (.ref b1)])
  obtain ⟨T3, h3, L3, X3, N3, e3, W3, V3, st3⟩ := own_stB X2 hx hZ e2 (j := (1 : Int32)) (vs' := [(.int x0), (.int x1)]) V2 B1 (by decide) 1 rfl (Nat.le_of_ble_eq_true rfl) rfl N2 ge_b1 (Ls := #[.val (.int (2 : Int32)), .val (.int x0), .val (.int x1), .val (.int x2), .val (.int x3)]) (rest := [(.ref b1)]) (hb hby d1_36)
  have old3 := old2.wr W3 ge_b1
  refine own_go st3 ?_
  show own_Go p e below _ T3 (mkF m 37 #[.val (.int (2 : Int32)), .val (.int x0), .val (.int x1), .val (.int x2), .val (.int x3)] [(.ref b1)])
  refine own_retA X3 hx hlk hret (hb hby d1_37) rfl rfl (by decide) (by decide) ?_
  exact ⟨⟨b1, k1, rfl, ge_b1, by rw [e3]; exact old3, by rw [e3]; exact V3⟩, N3⟩
set_option maxRecDepth 65536 in
set_option maxHeartbeats 40000000 in
theorem rm1_3 (l : Launch) (Z : State) (a0 : Array Value) (hw : ∀ d ∈ tables_1, d.before a0 Z = true) (ws : List Jvm.Cond) (x0 : Int32) (x1 : Int32) (x2 : Int32) (x3 : Int32) (h0 : Heap) (n0 : Nat) (Z0 : n0 ≤ h0.size) (O0 : Old Z n0 h0) (B0 : x0.toInt8.toInt32 = x0) (B1 : x1.toInt8.toInt32 = x1) (B2 : x2.toInt8.toInt32 = x2) (B3 : x3.toInt8.toInt32 = x3) :
    own_Met l Z (⟨"com/example/tallygate/tallygate/codec/Utf8TextAfterByteOrderMarkPinLaw", "pick", "(IBBBB)[B"⟩ : MethodName) method_2_code 5 (some (.array .byte)) ws ({ frames := 0, cells := 1, slots := 3, locals := 0 } : Room) #[(.int (3 : Int32)), (.int x0), (.int x1), (.int x2), (.int x3)] h0 (fun v h L => (∃ (b : Addr) (kA : ClassId), v = some (.ref b) ∧ n0 ≤ b ∧ Old Z n0 h ∧ Arv Z h b kA .byte (3 : Int32) [(.int x0), (.int x1), (.int x2)] (.int 0)) ∧ Fr n0 L) := by
  refine own_body (by first | exact plainFor_of_name pn_com_example_tallygate_tallygate_codec_Utf8TextAfterByteOrderMarkPinLaw | decide +kernel) ?_
  intro p e s m below meth c T0 X0 hx hby hml hret hlk hZ hown hnm e0
  have hown : s.vm.findClass "com/example/tallygate/tallygate/codec/Utf8TextAfterByteOrderMarkPinLaw" = some m.cls := hown
  have hnm : meth.name = "pick" := hnm
  have N0 := Fr.nil n0
  rw [ef_1_3 m (3 : Int32) x0 x1 x2 x3]
  show own_Go p e below _ T0 (mkF m 0 #[.val (.int (3 : Int32)), .val (.int x0), .val (.int x1), .val (.int x2), .val (.int x3)] [])
  refine own_go (fun t k => XS.iloadN X0.here hx rfl (hb hby d1_0) rfl k) ?_
  show own_Go p e below _ T0 (mkF m 1 #[.val (.int (3 : Int32)), .val (.int x0), .val (.int x1), .val (.int x2), .val (.int x3)] [(.int (3 : Int32))])
  refine own_go (fun t k => XS.ifYes X0.here hx rfl (pc0 := 1) (pc' := 8) rfl (hb hby d1_1) rfl (XT.i0_ne_t (by decide)) (by decide) (by decide) k) ?_
  show own_Go p e below _ T0 (mkF m 8 #[.val (.int (3 : Int32)), .val (.int x0), .val (.int x1), .val (.int x2), .val (.int x3)] [])
  refine own_go (fun t k => XS.iloadN X0.here hx rfl (hb hby d1_8) rfl k) ?_
  show own_Go p e below _ T0 (mkF m 9 #[.val (.int (3 : Int32)), .val (.int x0), .val (.int x1), .val (.int x2), .val (.int x3)] [(.int (3 : Int32))])
  refine own_go (fun t k => XS.iconst X0.here hx rfl (hb hby d1_9) k) ?_
  show own_Go p e below _ T0 (mkF m 10 #[.val (.int (3 : Int32)), .val (.int x0), .val (.int x1), .val (.int x2), .val (.int x3)] [(.int (1 : Int32)), (.int (3 : Int32))])
  refine own_go (fun t k => XS.icmpYes X0.here hx rfl (pc0 := 10) (pc' := 21) rfl (hb hby d1_10) rfl (XT.ii_ne_t (by decide)) (by decide) (by decide) k) ?_
  show own_Go p e below _ T0 (mkF m 21 #[.val (.int (3 : Int32)), .val (.int x0), .val (.int x1), .val (.int x2), .val (.int x3)] [])
  refine own_go (fun t k => XS.iloadN X0.here hx rfl (hb hby d1_21) rfl k) ?_
  show own_Go p e below _ T0 (mkF m 22 #[.val (.int (3 : Int32)), .val (.int x0), .val (.int x1), .val (.int x2), .val (.int x3)] [(.int (3 : Int32))])
  refine own_go (fun t k => XS.iconst X0.here hx rfl (hb hby d1_22) k) ?_
  show own_Go p e below _ T0 (mkF m 23 #[.val (.int (3 : Int32)), .val (.int x0), .val (.int x1), .val (.int x2), .val (.int x3)] [(.int (2 : Int32)), (.int (3 : Int32))])
  refine own_go (fun t k => XS.icmpYes X0.here hx rfl (pc0 := 23) (pc' := 38) rfl (hb hby d1_23) rfl (XT.ii_ne_t (by decide)) (by decide) (by decide) k) ?_
  show own_Go p e below _ T0 (mkF m 38 #[.val (.int (3 : Int32)), .val (.int x0), .val (.int x1), .val (.int x2), .val (.int x3)] [])
  refine own_go (fun t k => XS.iloadN X0.here hx rfl (hb hby d1_38) rfl k) ?_
  show own_Go p e below _ T0 (mkF m 39 #[.val (.int (3 : Int32)), .val (.int x0), .val (.int x1), .val (.int x2), .val (.int x3)] [(.int (3 : Int32))])
  refine own_go (fun t k => XS.iconst X0.here hx rfl (hb hby d1_39) k) ?_
  show own_Go p e below _ T0 (mkF m 40 #[.val (.int (3 : Int32)), .val (.int x0), .val (.int x1), .val (.int x2), .val (.int x3)] [(.int (3 : Int32)), (.int (3 : Int32))])
  refine own_go (fun t k => XS.icmpNo X0.here hx rfl (hb hby d1_40) rfl (XT.ii_ne_f (by decide)) k) ?_
  show own_Go p e below _ T0 (mkF m 43 #[.val (.int (3 : Int32)), .val (.int x0), .val (.int x1), .val (.int x2), .val (.int x3)] [])
  refine own_go (fun t k => XS.iconst X0.here hx rfl (hb hby d1_43) k) ?_
  show own_Go p e below _ T0 (mkF m 44 #[.val (.int (3 : Int32)), .val (.int x0), .val (.int x1), .val (.int x2), .val (.int x3)] [(.int (3 : Int32))])
  obtain ⟨T1, h1, b1, k1, X1, e1, E1, g1, V1, st1⟩ := own_newP X0 hx hZ rfl (own_w hw 4 rfl) e0 (Ls := #[.val (.int (3 : Int32)), .val (.int x0), .val (.int x1), .val (.int x2), .val (.int x3)]) (rest := []) (hb hby d1_44) (n := (3 : Int32)) (by decide) 3 (by decide) (by decide) (by decide) (by decide)
  have ge_b1 : n0 ≤ b1 := g1 ▸ own_oldge O0
  have old1 := O0.ext E1
  have V1 : Arv Z h1 b1 k1 .byte (3 : Int32) [(.int (0 : Int32)), (.int (0 : Int32)), (.int (0 : Int32))] (.int (0 : Int32)) := V1
  refine own_go st1 ?_
  show own_Go p e below _ T1 (mkF m 46 #[.val (.int (3 : Int32)), .val (.int x0), .val (.int x1), .val (.int x2), .val (.int x3)] [(.ref b1)])
  refine own_go (fun t k => XS.dup X1.here hx rfl (hb hby d1_46) rfl rfl k) ?_
  show own_Go p e below _ T1 (mkF m 47 #[.val (.int (3 : Int32)), .val (.int x0), .val (.int x1), .val (.int x2), .val (.int x3)] [(.ref b1), (.ref b1)])
  refine own_go (fun t k => XS.iconst X1.here hx rfl (hb hby d1_47) k) ?_
  show own_Go p e below _ T1 (mkF m 48 #[.val (.int (3 : Int32)), .val (.int x0), .val (.int x1), .val (.int x2), .val (.int x3)] [(.int (0 : Int32)), (.ref b1), (.ref b1)])
  refine own_go (fun t k => XS.iloadN X1.here hx rfl (hb hby d1_48) rfl k) ?_
  show own_Go p e below _ T1 (mkF m 49 #[.val (.int (3 : Int32)), .val (.int x0), .val (.int x1), .val (.int x2), .val (.int x3)] [(.int x0), (.int (0 : Int32)), (.ref b1), (.ref b1)])
  obtain ⟨T2, h2, L2, X2, N2, e2, W2, V2, st2⟩ := own_stB X1 hx hZ e1 (j := (0 : Int32)) (vs' := [(.int x0), (.int (0 : Int32)), (.int (0 : Int32))]) V1 B0 (by decide) 0 rfl (Nat.le_of_ble_eq_true rfl) rfl N0 ge_b1 (Ls := #[.val (.int (3 : Int32)), .val (.int x0), .val (.int x1), .val (.int x2), .val (.int x3)]) (rest := [(.ref b1)]) (hb hby d1_49)
  have old2 := old1.wr W2 ge_b1
  refine own_go st2 ?_
  show own_Go p e below _ T2 (mkF m 50 #[.val (.int (3 : Int32)), .val (.int x0), .val (.int x1), .val (.int x2), .val (.int x3)] [(.ref b1)])
  refine own_go (fun t k => XS.dup X2.here hx rfl (hb hby d1_50) rfl rfl k) ?_
  show own_Go p e below _ T2 (mkF m 51 #[.val (.int (3 : Int32)), .val (.int x0), .val (.int x1), .val (.int x2), .val (.int x3)] [(.ref b1), (.ref b1)])
  refine own_go (fun t k => XS.iconst X2.here hx rfl (hb hby d1_51) k) ?_
  show own_Go p e below _ T2 (mkF m 52 #[.val (.int (3 : Int32)), .val (.int x0), .val (.int x1), .val (.int x2), .val (.int x3)] [(.int (1 : Int32)), (.ref b1), (.ref b1)])
  refine own_go (fun t k => XS.iloadN X2.here hx rfl (hb hby d1_52) rfl k) ?_
  show own_Go p e below _ T2 (mkF m 53 #[.val (.int (3 : Int32)), .val (.int x0), .val (.int x1), .val (.int x2), .val (.int x3)] [(.int x1), (.int (1 : Int32)), (.ref b1), (.ref b1)])
  obtain ⟨T3, h3, L3, X3, N3, e3, W3, V3, st3⟩ := own_stB X2 hx hZ e2 (j := (1 : Int32)) (vs' := [(.int x0), (.int x1), (.int (0 : Int32))]) V2 B1 (by decide) 1 rfl (Nat.le_of_ble_eq_true rfl) rfl N2 ge_b1 (Ls := #[.val (.int (3 : Int32)), .val (.int x0), .val (.int x1), .val (.int x2), .val (.int x3)]) (rest := [(.ref b1)]) (hb hby d1_53)
  have old3 := old2.wr W3 ge_b1
  refine own_go st3 ?_
  show own_Go p e below _ T3 (mkF m 54 #[.val (.int (3 : Int32)), .val (.int x0), .val (.int x1), .val (.int x2), .val (.int x3)] [(.ref b1)])
  refine own_go (fun t k => XS.dup X3.here hx rfl (hb hby d1_54) rfl rfl k) ?_
  show own_Go p e below _ T3 (mkF m 55 #[.val (.int (3 : Int32)), .val (.int x0), .val (.int x1), .val (.int x2), .val (.int x3)] [(.ref b1), (.ref b1)])
  refine own_go (fun t k => XS.iconst X3.here hx rfl (hb hby d1_55) k) ?_
  show own_Go p e below _ T3 (mkF m 56 #[.val (.int (3 : Int32)), .val (.int x0), .val (.int x1), .val (.int x2), .val (.int x3)] [(.int (2 : Int32)), (.ref b1), (.ref b1)])
  refine own_go (fun t k => XS.iloadN X3.here hx rfl (hb hby d1_56) rfl k) ?_
  show own_Go p e below _ T3 (mkF m 57 #[.val (.int (3 : Int32)), .val (.int x0), .val (.int x1), .val (.int x2), .val (.int x3)] [(.int x2), (.int (2 : Int32)), (.ref b1), (.ref b1)])
  obtain ⟨T4, h4, L4, X4, N4, e4, W4, V4, st4⟩ := own_stB X3 hx hZ e3 (j := (2 : Int32)) (vs' := [(.int x0), (.int x1), (.int x2)]) V3 B2 (by decide) 2 rfl (Nat.le_of_ble_eq_true rfl) rfl N3 ge_b1 (Ls := #[.val (.int (3 : Int32)), .val (.int x0), .val (.int x1), .val (.int x2), .val (.int x3)]) (rest := [(.ref b1)]) (hb hby d1_57)
  have old4 := old3.wr W4 ge_b1
  refine own_go st4 ?_
  show own_Go p e below _ T4 (mkF m 58 #[.val (.int (3 : Int32)), .val (.int x0), .val (.int x1), .val (.int x2), .val (.int x3)] [(.ref b1)])
  refine own_retA X4 hx hlk hret (hb hby d1_58) rfl rfl (by decide) (by decide) ?_
  exact ⟨⟨b1, k1, rfl, ge_b1, by rw [e4]; exact old4, by rw [e4]; exact V4⟩, N4⟩
set_option maxRecDepth 65536 in
set_option maxHeartbeats 40000000 in
theorem rm1_4 (l : Launch) (Z : State) (a0 : Array Value) (hw : ∀ d ∈ tables_1, d.before a0 Z = true) (ws : List Jvm.Cond) (x0 : Int32) (x1 : Int32) (x2 : Int32) (x3 : Int32) (h0 : Heap) (n0 : Nat) (Z0 : n0 ≤ h0.size) (O0 : Old Z n0 h0) (B0 : x0.toInt8.toInt32 = x0) (B1 : x1.toInt8.toInt32 = x1) (B2 : x2.toInt8.toInt32 = x2) (B3 : x3.toInt8.toInt32 = x3) :
    own_Met l Z (⟨"com/example/tallygate/tallygate/codec/Utf8TextAfterByteOrderMarkPinLaw", "pick", "(IBBBB)[B"⟩ : MethodName) method_2_code 5 (some (.array .byte)) ws ({ frames := 0, cells := 1, slots := 4, locals := 0 } : Room) #[(.int (4 : Int32)), (.int x0), (.int x1), (.int x2), (.int x3)] h0 (fun v h L => (∃ (b : Addr) (kA : ClassId), v = some (.ref b) ∧ n0 ≤ b ∧ Old Z n0 h ∧ Arv Z h b kA .byte (4 : Int32) [(.int x0), (.int x1), (.int x2), (.int x3)] (.int 0)) ∧ Fr n0 L) := by
  refine own_body (by first | exact plainFor_of_name pn_com_example_tallygate_tallygate_codec_Utf8TextAfterByteOrderMarkPinLaw | decide +kernel) ?_
  intro p e s m below meth c T0 X0 hx hby hml hret hlk hZ hown hnm e0
  have hown : s.vm.findClass "com/example/tallygate/tallygate/codec/Utf8TextAfterByteOrderMarkPinLaw" = some m.cls := hown
  have hnm : meth.name = "pick" := hnm
  have N0 := Fr.nil n0
  rw [ef_1_4 m (4 : Int32) x0 x1 x2 x3]
  show own_Go p e below _ T0 (mkF m 0 #[.val (.int (4 : Int32)), .val (.int x0), .val (.int x1), .val (.int x2), .val (.int x3)] [])
  refine own_go (fun t k => XS.iloadN X0.here hx rfl (hb hby d1_0) rfl k) ?_
  show own_Go p e below _ T0 (mkF m 1 #[.val (.int (4 : Int32)), .val (.int x0), .val (.int x1), .val (.int x2), .val (.int x3)] [(.int (4 : Int32))])
  refine own_go (fun t k => XS.ifYes X0.here hx rfl (pc0 := 1) (pc' := 8) rfl (hb hby d1_1) rfl (XT.i0_ne_t (by decide)) (by decide) (by decide) k) ?_
  show own_Go p e below _ T0 (mkF m 8 #[.val (.int (4 : Int32)), .val (.int x0), .val (.int x1), .val (.int x2), .val (.int x3)] [])
  refine own_go (fun t k => XS.iloadN X0.here hx rfl (hb hby d1_8) rfl k) ?_
  show own_Go p e below _ T0 (mkF m 9 #[.val (.int (4 : Int32)), .val (.int x0), .val (.int x1), .val (.int x2), .val (.int x3)] [(.int (4 : Int32))])
  refine own_go (fun t k => XS.iconst X0.here hx rfl (hb hby d1_9) k) ?_
  show own_Go p e below _ T0 (mkF m 10 #[.val (.int (4 : Int32)), .val (.int x0), .val (.int x1), .val (.int x2), .val (.int x3)] [(.int (1 : Int32)), (.int (4 : Int32))])
  refine own_go (fun t k => XS.icmpYes X0.here hx rfl (pc0 := 10) (pc' := 21) rfl (hb hby d1_10) rfl (XT.ii_ne_t (by decide)) (by decide) (by decide) k) ?_
  show own_Go p e below _ T0 (mkF m 21 #[.val (.int (4 : Int32)), .val (.int x0), .val (.int x1), .val (.int x2), .val (.int x3)] [])
  refine own_go (fun t k => XS.iloadN X0.here hx rfl (hb hby d1_21) rfl k) ?_
  show own_Go p e below _ T0 (mkF m 22 #[.val (.int (4 : Int32)), .val (.int x0), .val (.int x1), .val (.int x2), .val (.int x3)] [(.int (4 : Int32))])
  refine own_go (fun t k => XS.iconst X0.here hx rfl (hb hby d1_22) k) ?_
  show own_Go p e below _ T0 (mkF m 23 #[.val (.int (4 : Int32)), .val (.int x0), .val (.int x1), .val (.int x2), .val (.int x3)] [(.int (2 : Int32)), (.int (4 : Int32))])
  refine own_go (fun t k => XS.icmpYes X0.here hx rfl (pc0 := 23) (pc' := 38) rfl (hb hby d1_23) rfl (XT.ii_ne_t (by decide)) (by decide) (by decide) k) ?_
  show own_Go p e below _ T0 (mkF m 38 #[.val (.int (4 : Int32)), .val (.int x0), .val (.int x1), .val (.int x2), .val (.int x3)] [])
  refine own_go (fun t k => XS.iloadN X0.here hx rfl (hb hby d1_38) rfl k) ?_
  show own_Go p e below _ T0 (mkF m 39 #[.val (.int (4 : Int32)), .val (.int x0), .val (.int x1), .val (.int x2), .val (.int x3)] [(.int (4 : Int32))])
  refine own_go (fun t k => XS.iconst X0.here hx rfl (hb hby d1_39) k) ?_
  show own_Go p e below _ T0 (mkF m 40 #[.val (.int (4 : Int32)), .val (.int x0), .val (.int x1), .val (.int x2), .val (.int x3)] [(.int (3 : Int32)), (.int (4 : Int32))])
  refine own_go (fun t k => XS.icmpYes X0.here hx rfl (pc0 := 40) (pc' := 59) rfl (hb hby d1_40) rfl (XT.ii_ne_t (by decide)) (by decide) (by decide) k) ?_
  show own_Go p e below _ T0 (mkF m 59 #[.val (.int (4 : Int32)), .val (.int x0), .val (.int x1), .val (.int x2), .val (.int x3)] [])
  refine own_go (fun t k => XS.iconst X0.here hx rfl (hb hby d1_59) k) ?_
  show own_Go p e below _ T0 (mkF m 60 #[.val (.int (4 : Int32)), .val (.int x0), .val (.int x1), .val (.int x2), .val (.int x3)] [(.int (4 : Int32))])
  obtain ⟨T1, h1, b1, k1, X1, e1, E1, g1, V1, st1⟩ := own_newP X0 hx hZ rfl (own_w hw 4 rfl) e0 (Ls := #[.val (.int (4 : Int32)), .val (.int x0), .val (.int x1), .val (.int x2), .val (.int x3)]) (rest := []) (hb hby d1_60) (n := (4 : Int32)) (by decide) 4 (by decide) (by decide) (by decide) (by decide)
  have ge_b1 : n0 ≤ b1 := g1 ▸ own_oldge O0
  have old1 := O0.ext E1
  have V1 : Arv Z h1 b1 k1 .byte (4 : Int32) [(.int (0 : Int32)), (.int (0 : Int32)), (.int (0 : Int32)), (.int (0 : Int32))] (.int (0 : Int32)) := V1
  refine own_go st1 ?_
  show own_Go p e below _ T1 (mkF m 62 #[.val (.int (4 : Int32)), .val (.int x0), .val (.int x1), .val (.int x2), .val (.int x3)] [(.ref b1)])
  refine own_go (fun t k => XS.dup X1.here hx rfl (hb hby d1_62) rfl rfl k) ?_
  show own_Go p e below _ T1 (mkF m 63 #[.val (.int (4 : Int32)), .val (.int x0), .val (.int x1), .val (.int x2), .val (.int x3)] [(.ref b1), (.ref b1)])
  refine own_go (fun t k => XS.iconst X1.here hx rfl (hb hby d1_63) k) ?_
  show own_Go p e below _ T1 (mkF m 64 #[.val (.int (4 : Int32)), .val (.int x0), .val (.int x1), .val (.int x2), .val (.int x3)] [(.int (0 : Int32)), (.ref b1), (.ref b1)])
  refine own_go (fun t k => XS.iloadN X1.here hx rfl (hb hby d1_64) rfl k) ?_
  show own_Go p e below _ T1 (mkF m 65 #[.val (.int (4 : Int32)), .val (.int x0), .val (.int x1), .val (.int x2), .val (.int x3)] [(.int x0), (.int (0 : Int32)), (.ref b1), (.ref b1)])
  obtain ⟨T2, h2, L2, X2, N2, e2, W2, V2, st2⟩ := own_stB X1 hx hZ e1 (j := (0 : Int32)) (vs' := [(.int x0), (.int (0 : Int32)), (.int (0 : Int32)), (.int (0 : Int32))]) V1 B0 (by decide) 0 rfl (Nat.le_of_ble_eq_true rfl) rfl N0 ge_b1 (Ls := #[.val (.int (4 : Int32)), .val (.int x0), .val (.int x1), .val (.int x2), .val (.int x3)]) (rest := [(.ref b1)]) (hb hby d1_65)
  have old2 := old1.wr W2 ge_b1
  refine own_go st2 ?_
  show own_Go p e below _ T2 (mkF m 66 #[.val (.int (4 : Int32)), .val (.int x0), .val (.int x1), .val (.int x2), .val (.int x3)] [(.ref b1)])
  refine own_go (fun t k => XS.dup X2.here hx rfl (hb hby d1_66) rfl rfl k) ?_
  show own_Go p e below _ T2 (mkF m 67 #[.val (.int (4 : Int32)), .val (.int x0), .val (.int x1), .val (.int x2), .val (.int x3)] [(.ref b1), (.ref b1)])
  refine own_go (fun t k => XS.iconst X2.here hx rfl (hb hby d1_67) k) ?_
  show own_Go p e below _ T2 (mkF m 68 #[.val (.int (4 : Int32)), .val (.int x0), .val (.int x1), .val (.int x2), .val (.int x3)] [(.int (1 : Int32)), (.ref b1), (.ref b1)])
  refine own_go (fun t k => XS.iloadN X2.here hx rfl (hb hby d1_68) rfl k) ?_
  show own_Go p e below _ T2 (mkF m 69 #[.val (.int (4 : Int32)), .val (.int x0), .val (.int x1), .val (.int x2), .val (.int x3)] [(.int x1), (.int (1 : Int32)), (.ref b1), (.ref b1)])
  obtain ⟨T3, h3, L3, X3, N3, e3, W3, V3, st3⟩ := own_stB X2 hx hZ e2 (j := (1 : Int32)) (vs' := [(.int x0), (.int x1), (.int (0 : Int32)), (.int (0 : Int32))]) V2 B1 (by decide) 1 rfl (Nat.le_of_ble_eq_true rfl) rfl N2 ge_b1 (Ls := #[.val (.int (4 : Int32)), .val (.int x0), .val (.int x1), .val (.int x2), .val (.int x3)]) (rest := [(.ref b1)]) (hb hby d1_69)
  have old3 := old2.wr W3 ge_b1
  refine own_go st3 ?_
  show own_Go p e below _ T3 (mkF m 70 #[.val (.int (4 : Int32)), .val (.int x0), .val (.int x1), .val (.int x2), .val (.int x3)] [(.ref b1)])
  refine own_go (fun t k => XS.dup X3.here hx rfl (hb hby d1_70) rfl rfl k) ?_
  show own_Go p e below _ T3 (mkF m 71 #[.val (.int (4 : Int32)), .val (.int x0), .val (.int x1), .val (.int x2), .val (.int x3)] [(.ref b1), (.ref b1)])
  refine own_go (fun t k => XS.iconst X3.here hx rfl (hb hby d1_71) k) ?_
  show own_Go p e below _ T3 (mkF m 72 #[.val (.int (4 : Int32)), .val (.int x0), .val (.int x1), .val (.int x2), .val (.int x3)] [(.int (2 : Int32)), (.ref b1), (.ref b1)])
  refine own_go (fun t k => XS.iloadN X3.here hx rfl (hb hby d1_72) rfl k) ?_
  show own_Go p e below _ T3 (mkF m 73 #[.val (.int (4 : Int32)), .val (.int x0), .val (.int x1), .val (.int x2), .val (.int x3)] [(.int x2), (.int (2 : Int32)), (.ref b1), (.ref b1)])
  obtain ⟨T4, h4, L4, X4, N4, e4, W4, V4, st4⟩ := own_stB X3 hx hZ e3 (j := (2 : Int32)) (vs' := [(.int x0), (.int x1), (.int x2), (.int (0 : Int32))]) V3 B2 (by decide) 2 rfl (Nat.le_of_ble_eq_true rfl) rfl N3 ge_b1 (Ls := #[.val (.int (4 : Int32)), .val (.int x0), .val (.int x1), .val (.int x2), .val (.int x3)]) (rest := [(.ref b1)]) (hb hby d1_73)
  have old4 := old3.wr W4 ge_b1
  refine own_go st4 ?_
  show own_Go p e below _ T4 (mkF m 74 #[.val (.int (4 : Int32)), .val (.int x0), .val (.int x1), .val (.int x2), .val (.int x3)] [(.ref b1)])
  refine own_go (fun t k => XS.dup X4.here hx rfl (hb hby d1_74) rfl rfl k) ?_
  show own_Go p e below _ T4 (mkF m 75 #[.val (.int (4 : Int32)), .val (.int x0), .val (.int x1), .val (.int x2), .val (.int x3)] [(.ref b1), (.ref b1)])
  refine own_go (fun t k => XS.iconst X4.here hx rfl (hb hby d1_75) k) ?_
  show own_Go p e below _ T4 (mkF m 76 #[.val (.int (4 : Int32)), .val (.int x0), .val (.int x1), .val (.int x2), .val (.int x3)] [(.int (3 : Int32)), (.ref b1), (.ref b1)])
  refine own_go (fun t k => XS.iload X4.here hx rfl (hb hby d1_76) rfl k) ?_
  show own_Go p e below _ T4 (mkF m 78 #[.val (.int (4 : Int32)), .val (.int x0), .val (.int x1), .val (.int x2), .val (.int x3)] [(.int x3), (.int (3 : Int32)), (.ref b1), (.ref b1)])
  obtain ⟨T5, h5, L5, X5, N5, e5, W5, V5, st5⟩ := own_stB X4 hx hZ e4 (j := (3 : Int32)) (vs' := [(.int x0), (.int x1), (.int x2), (.int x3)]) V4 B3 (by decide) 3 rfl (Nat.le_of_ble_eq_true rfl) rfl N4 ge_b1 (Ls := #[.val (.int (4 : Int32)), .val (.int x0), .val (.int x1), .val (.int x2), .val (.int x3)]) (rest := [(.ref b1)]) (hb hby d1_78)
  have old5 := old4.wr W5 ge_b1
  refine own_go st5 ?_
  show own_Go p e below _ T5 (mkF m 79 #[.val (.int (4 : Int32)), .val (.int x0), .val (.int x1), .val (.int x2), .val (.int x3)] [(.ref b1)])
  refine own_retA X5 hx hlk hret (hb hby d1_79) rfl rfl (by decide) (by decide) ?_
  exact ⟨⟨b1, k1, rfl, ge_b1, by rw [e5]; exact old5, by rw [e5]; exact V5⟩, N5⟩
set_option maxRecDepth 65536 in
set_option maxHeartbeats 40000000 in
theorem rm2_0 (l : Launch) (Z : State) (a0 : Array Value) (hw : ∀ d ∈ tables_1, d.before a0 Z = true) (ws : List Jvm.Cond) (a1 am : Addr) (k1 km : ClassId)  (h0 : Heap) (n0 : Nat) (Z0 : n0 ≤ h0.size) (O0 : Old Z n0 h0) (S_BOM : Sta Z Z.heap "com/example/tallygate/tallygate/codec/Utf8Text" "BYTE_ORDER_MARK" "[B" (.ref am)) (V_BOM : Arv Z Z.heap am km .byte (3 : Int32) [(.int (-17 : Int32)), (.int (-69 : Int32)), (.int (-65 : Int32))] (.int 0)) (V1 : Arv Z h0 a1 k1 .byte (0 : Int32) [] (.int 0)) :
    own_Met l Z (⟨"com/example/tallygate/tallygate/codec/Utf8Text", "afterByteOrderMark", "([B)I"⟩ : MethodName) prog_16_method_2_code 3 (some .int) ws ({ frames := 0, cells := 0, slots := 0, locals := 0 } : Room) #[(.ref a1)] h0 (fun v h L => v = some (.int 0) ∧ Fr n0 L ∧ h = h0) := by
  refine own_body (by first | exact plainFor_of_name pn_com_example_tallygate_tallygate_codec_Utf8Text | decide +kernel) ?_
  intro p e s m below meth c T0 X0 hx hby hml hret hlk hZ hown hnm e0
  have hown : s.vm.findClass "com/example/tallygate/tallygate/codec/Utf8Text" = some m.cls := hown
  have hnm : meth.name = "afterByteOrderMark" := hnm
  have N0 := Fr.nil n0
  rw [ef_2 m a1]
  show own_Go p e below _ T0 (mkF m 0 #[.val (.ref a1), .unset, .unset] [])
  refine own_go (fun t k => XS.aloadN X0.here hx rfl (hb hby d2_0) rfl rfl k) ?_
  show own_Go p e below _ T0 (mkF m 1 #[.val (.ref a1), .unset, .unset] [(.ref a1)])
  refine own_go (own_len X0 hx hZ e0 (Ls := #[.val (.ref a1), .unset, .unset]) (rest := []) V1 (hb hby d2_1)) ?_
  show own_Go p e below _ T0 (mkF m 2 #[.val (.ref a1), .unset, .unset] [(.int (0 : Int32))])
  obtain ⟨T1, X1, e1, st1⟩ := getS2 X0 hx hZ hown (host := "") (Or.inl (own_w hw 9 rfl)) Via.refl e0 (S_BOM.ext O0.2) (g := (mkF m 2 #[.val (.ref a1), .unset, .unset] [(.int (0 : Int32))])) rfl (hb hby d2_2)
  refine own_go st1 ?_
  show own_Go p e below _ T1 (mkF m 5 #[.val (.ref a1), .unset, .unset] [(.ref am), (.int (0 : Int32))])
  refine own_go (own_len X1 hx hZ e1 (Ls := #[.val (.ref a1), .unset, .unset]) (rest := [(.int (0 : Int32))]) (V_BOM.ext O0.2) (hb hby d2_5)) ?_
  show own_Go p e below _ T1 (mkF m 6 #[.val (.ref a1), .unset, .unset] [(.int (3 : Int32)), (.int (0 : Int32))])
  refine own_go (fun t k => XS.icmpYes X1.here hx rfl (pc0 := 6) (pc' := 13) rfl (hb hby d2_6) rfl (XT.ii_lt_t (by decide)) (by decide) (by decide) k) ?_
  show own_Go p e below _ T1 (mkF m 13 #[.val (.ref a1), .unset, .unset] [])
  refine own_go (fun t k => XS.iconst X1.here hx rfl (hb hby d2_13) k) ?_
  show own_Go p e below _ T1 (mkF m 14 #[.val (.ref a1), .unset, .unset] [(.int (0 : Int32))])
  refine own_go (fun t k => XS.istoreN X1.here hx rfl (hb hby d2_14) rfl (l' := #[.val (.ref a1), .val (.int (0 : Int32)), .unset]) rfl k) ?_
  show own_Go p e below _ T1 (mkF m 15 #[.val (.ref a1), .val (.int (0 : Int32)), .unset] [])
  refine own_go (fun t k => XS.iconst X1.here hx rfl (hb hby d2_15) k) ?_
  show own_Go p e below _ T1 (mkF m 16 #[.val (.ref a1), .val (.int (0 : Int32)), .unset] [(.int (0 : Int32))])
  refine own_go (fun t k => XS.istoreN X1.here hx rfl (hb hby d2_16) rfl (l' := #[.val (.ref a1), .val (.int (0 : Int32)), .val (.int (0 : Int32))]) rfl k) ?_
  show own_Go p e below _ T1 (mkF m 17 #[.val (.ref a1), .val (.int (0 : Int32)), .val (.int (0 : Int32))] [])
  refine own_go (fun t k => XS.iloadN X1.here hx rfl (hb hby d2_17) rfl k) ?_
  show own_Go p e below _ T1 (mkF m 18 #[.val (.ref a1), .val (.int (0 : Int32)), .val (.int (0 : Int32))] [(.int (0 : Int32))])
  obtain ⟨T2, X2, e2, st2⟩ := getS2 X1 hx hZ hown (host := "") (Or.inl (own_w hw 9 rfl)) Via.refl e1 (S_BOM.ext O0.2) (g := (mkF m 18 #[.val (.ref a1), .val (.int (0 : Int32)), .val (.int (0 : Int32))] [(.int (0 : Int32))])) rfl (hb hby d2_18)
  refine own_go st2 ?_
  show own_Go p e below _ T2 (mkF m 21 #[.val (.ref a1), .val (.int (0 : Int32)), .val (.int (0 : Int32))] [(.ref am), (.int (0 : Int32))])
  refine own_go (own_len X2 hx hZ e2 (Ls := #[.val (.ref a1), .val (.int (0 : Int32)), .val (.int (0 : Int32))]) (rest := [(.int (0 : Int32))]) (V_BOM.ext O0.2) (hb hby d2_21)) ?_
  show own_Go p e below _ T2 (mkF m 22 #[.val (.ref a1), .val (.int (0 : Int32)), .val (.int (0 : Int32))] [(.int (3 : Int32)), (.int (0 : Int32))])
  refine own_go (fun t k => XS.icmpNo X2.here hx rfl (hb hby d2_22) rfl (XT.ii_ge_f (by decide)) k) ?_
  show own_Go p e below _ T2 (mkF m 25 #[.val (.ref a1), .val (.int (0 : Int32)), .val (.int (0 : Int32))] [])
  refine own_go (fun t k => XS.iloadN X2.here hx rfl (hb hby d2_25) rfl k) ?_
  show own_Go p e below _ T2 (mkF m 26 #[.val (.ref a1), .val (.int (0 : Int32)), .val (.int (0 : Int32))] [(.int (0 : Int32))])
  refine own_go (fun t k => XS.ifYes X2.here hx rfl (pc0 := 26) (pc' := 52) rfl (hb hby d2_26) rfl (XT.i0_eq_t (by decide)) (by decide) (by decide) k) ?_
  show own_Go p e below _ T2 (mkF m 52 #[.val (.ref a1), .val (.int (0 : Int32)), .val (.int (0 : Int32))] [])
  refine own_go (fun t k => XS.iloadN X2.here hx rfl (hb hby d2_52) rfl k) ?_
  show own_Go p e below _ T2 (mkF m 53 #[.val (.ref a1), .val (.int (0 : Int32)), .val (.int (0 : Int32))] [(.int (0 : Int32))])
  refine own_go (fun t k => XS.ifYes X2.here hx rfl (pc0 := 53) (pc' := 63) rfl (hb hby d2_53) rfl (XT.i0_eq_t (by decide)) (by decide) (by decide) k) ?_
  show own_Go p e below _ T2 (mkF m 63 #[.val (.ref a1), .val (.int (0 : Int32)), .val (.int (0 : Int32))] [])
  refine own_go (fun t k => XS.iconst X2.here hx rfl (hb hby d2_63) k) ?_
  show own_Go p e below _ T2 (mkF m 64 #[.val (.ref a1), .val (.int (0 : Int32)), .val (.int (0 : Int32))] [(.int (0 : Int32))])
  refine own_retI X2 hx hlk hret (hb hby d2_64) (by decide) (by decide) ?_
  exact ⟨rfl, N0, e2⟩
set_option maxRecDepth 65536 in
set_option maxHeartbeats 40000000 in
theorem rm2_1 (l : Launch) (Z : State) (a0 : Array Value) (hw : ∀ d ∈ tables_1, d.before a0 Z = true) (ws : List Jvm.Cond) (a1 am : Addr) (k1 km : ClassId) (x0 : Int32) (h0 : Heap) (n0 : Nat) (Z0 : n0 ≤ h0.size) (O0 : Old Z n0 h0) (S_BOM : Sta Z Z.heap "com/example/tallygate/tallygate/codec/Utf8Text" "BYTE_ORDER_MARK" "[B" (.ref am)) (V_BOM : Arv Z Z.heap am km .byte (3 : Int32) [(.int (-17 : Int32)), (.int (-69 : Int32)), (.int (-65 : Int32))] (.int 0)) (V1 : Arv Z h0 a1 k1 .byte (1 : Int32) [(.int x0)] (.int 0)) :
    own_Met l Z (⟨"com/example/tallygate/tallygate/codec/Utf8Text", "afterByteOrderMark", "([B)I"⟩ : MethodName) prog_16_method_2_code 3 (some .int) ws ({ frames := 0, cells := 0, slots := 0, locals := 0 } : Room) #[(.ref a1)] h0 (fun v h L => v = some (.int 0) ∧ Fr n0 L ∧ h = h0) := by
  refine own_body (by first | exact plainFor_of_name pn_com_example_tallygate_tallygate_codec_Utf8Text | decide +kernel) ?_
  intro p e s m below meth c T0 X0 hx hby hml hret hlk hZ hown hnm e0
  have hown : s.vm.findClass "com/example/tallygate/tallygate/codec/Utf8Text" = some m.cls := hown
  have hnm : meth.name = "afterByteOrderMark" := hnm
  have N0 := Fr.nil n0
  rw [ef_2 m a1]
  show own_Go p e below _ T0 (mkF m 0 #[.val (.ref a1), .unset, .unset] [])
  refine own_go (fun t k => XS.aloadN X0.here hx rfl (hb hby d2_0) rfl rfl k) ?_
  show own_Go p e below _ T0 (mkF m 1 #[.val (.ref a1), .unset, .unset] [(.ref a1)])
  refine own_go (own_len X0 hx hZ e0 (Ls := #[.val (.ref a1), .unset, .unset]) (rest := []) V1 (hb hby d2_1)) ?_
  show own_Go p e below _ T0 (mkF m 2 #[.val (.ref a1), .unset, .unset] [(.int (1 : Int32))])
  obtain ⟨T1, X1, e1, st1⟩ := getS2 X0 hx hZ hown (host := "") (Or.inl (own_w hw 9 rfl)) Via.refl e0 (S_BOM.ext O0.2) (g := (mkF m 2 #[.val (.ref a1), .unset, .unset] [(.int (1 : Int32))])) rfl (hb hby d2_2)
  refine own_go st1 ?_
  show own_Go p e below _ T1 (mkF m 5 #[.val (.ref a1), .unset, .unset] [(.ref am), (.int (1 : Int32))])
  refine own_go (own_len X1 hx hZ e1 (Ls := #[.val (.ref a1), .unset, .unset]) (rest := [(.int (1 : Int32))]) (V_BOM.ext O0.2) (hb hby d2_5)) ?_
  show own_Go p e below _ T1 (mkF m 6 #[.val (.ref a1), .unset, .unset] [(.int (3 : Int32)), (.int (1 : Int32))])
  refine own_go (fun t k => XS.icmpYes X1.here hx rfl (pc0 := 6) (pc' := 13) rfl (hb hby d2_6) rfl (XT.ii_lt_t (by decide)) (by decide) (by decide) k) ?_
  show own_Go p e below _ T1 (mkF m 13 #[.val (.ref a1), .unset, .unset] [])
  refine own_go (fun t k => XS.iconst X1.here hx rfl (hb hby d2_13) k) ?_
  show own_Go p e below _ T1 (mkF m 14 #[.val (.ref a1), .unset, .unset] [(.int (0 : Int32))])
  refine own_go (fun t k => XS.istoreN X1.here hx rfl (hb hby d2_14) rfl (l' := #[.val (.ref a1), .val (.int (0 : Int32)), .unset]) rfl k) ?_
  show own_Go p e below _ T1 (mkF m 15 #[.val (.ref a1), .val (.int (0 : Int32)), .unset] [])
  refine own_go (fun t k => XS.iconst X1.here hx rfl (hb hby d2_15) k) ?_
  show own_Go p e below _ T1 (mkF m 16 #[.val (.ref a1), .val (.int (0 : Int32)), .unset] [(.int (0 : Int32))])
  refine own_go (fun t k => XS.istoreN X1.here hx rfl (hb hby d2_16) rfl (l' := #[.val (.ref a1), .val (.int (0 : Int32)), .val (.int (0 : Int32))]) rfl k) ?_
  show own_Go p e below _ T1 (mkF m 17 #[.val (.ref a1), .val (.int (0 : Int32)), .val (.int (0 : Int32))] [])
  refine own_go (fun t k => XS.iloadN X1.here hx rfl (hb hby d2_17) rfl k) ?_
  show own_Go p e below _ T1 (mkF m 18 #[.val (.ref a1), .val (.int (0 : Int32)), .val (.int (0 : Int32))] [(.int (0 : Int32))])
  obtain ⟨T2, X2, e2, st2⟩ := getS2 X1 hx hZ hown (host := "") (Or.inl (own_w hw 9 rfl)) Via.refl e1 (S_BOM.ext O0.2) (g := (mkF m 18 #[.val (.ref a1), .val (.int (0 : Int32)), .val (.int (0 : Int32))] [(.int (0 : Int32))])) rfl (hb hby d2_18)
  refine own_go st2 ?_
  show own_Go p e below _ T2 (mkF m 21 #[.val (.ref a1), .val (.int (0 : Int32)), .val (.int (0 : Int32))] [(.ref am), (.int (0 : Int32))])
  refine own_go (own_len X2 hx hZ e2 (Ls := #[.val (.ref a1), .val (.int (0 : Int32)), .val (.int (0 : Int32))]) (rest := [(.int (0 : Int32))]) (V_BOM.ext O0.2) (hb hby d2_21)) ?_
  show own_Go p e below _ T2 (mkF m 22 #[.val (.ref a1), .val (.int (0 : Int32)), .val (.int (0 : Int32))] [(.int (3 : Int32)), (.int (0 : Int32))])
  refine own_go (fun t k => XS.icmpNo X2.here hx rfl (hb hby d2_22) rfl (XT.ii_ge_f (by decide)) k) ?_
  show own_Go p e below _ T2 (mkF m 25 #[.val (.ref a1), .val (.int (0 : Int32)), .val (.int (0 : Int32))] [])
  refine own_go (fun t k => XS.iloadN X2.here hx rfl (hb hby d2_25) rfl k) ?_
  show own_Go p e below _ T2 (mkF m 26 #[.val (.ref a1), .val (.int (0 : Int32)), .val (.int (0 : Int32))] [(.int (0 : Int32))])
  refine own_go (fun t k => XS.ifYes X2.here hx rfl (pc0 := 26) (pc' := 52) rfl (hb hby d2_26) rfl (XT.i0_eq_t (by decide)) (by decide) (by decide) k) ?_
  show own_Go p e below _ T2 (mkF m 52 #[.val (.ref a1), .val (.int (0 : Int32)), .val (.int (0 : Int32))] [])
  refine own_go (fun t k => XS.iloadN X2.here hx rfl (hb hby d2_52) rfl k) ?_
  show own_Go p e below _ T2 (mkF m 53 #[.val (.ref a1), .val (.int (0 : Int32)), .val (.int (0 : Int32))] [(.int (0 : Int32))])
  refine own_go (fun t k => XS.ifYes X2.here hx rfl (pc0 := 53) (pc' := 63) rfl (hb hby d2_53) rfl (XT.i0_eq_t (by decide)) (by decide) (by decide) k) ?_
  show own_Go p e below _ T2 (mkF m 63 #[.val (.ref a1), .val (.int (0 : Int32)), .val (.int (0 : Int32))] [])
  refine own_go (fun t k => XS.iconst X2.here hx rfl (hb hby d2_63) k) ?_
  show own_Go p e below _ T2 (mkF m 64 #[.val (.ref a1), .val (.int (0 : Int32)), .val (.int (0 : Int32))] [(.int (0 : Int32))])
  refine own_retI X2 hx hlk hret (hb hby d2_64) (by decide) (by decide) ?_
  exact ⟨rfl, N0, e2⟩
set_option maxRecDepth 65536 in
set_option maxHeartbeats 40000000 in
theorem rm2_2 (l : Launch) (Z : State) (a0 : Array Value) (hw : ∀ d ∈ tables_1, d.before a0 Z = true) (ws : List Jvm.Cond) (a1 am : Addr) (k1 km : ClassId) (x0 : Int32) (x1 : Int32) (h0 : Heap) (n0 : Nat) (Z0 : n0 ≤ h0.size) (O0 : Old Z n0 h0) (S_BOM : Sta Z Z.heap "com/example/tallygate/tallygate/codec/Utf8Text" "BYTE_ORDER_MARK" "[B" (.ref am)) (V_BOM : Arv Z Z.heap am km .byte (3 : Int32) [(.int (-17 : Int32)), (.int (-69 : Int32)), (.int (-65 : Int32))] (.int 0)) (V1 : Arv Z h0 a1 k1 .byte (2 : Int32) [(.int x0), (.int x1)] (.int 0)) :
    own_Met l Z (⟨"com/example/tallygate/tallygate/codec/Utf8Text", "afterByteOrderMark", "([B)I"⟩ : MethodName) prog_16_method_2_code 3 (some .int) ws ({ frames := 0, cells := 0, slots := 0, locals := 0 } : Room) #[(.ref a1)] h0 (fun v h L => v = some (.int 0) ∧ Fr n0 L ∧ h = h0) := by
  refine own_body (by first | exact plainFor_of_name pn_com_example_tallygate_tallygate_codec_Utf8Text | decide +kernel) ?_
  intro p e s m below meth c T0 X0 hx hby hml hret hlk hZ hown hnm e0
  have hown : s.vm.findClass "com/example/tallygate/tallygate/codec/Utf8Text" = some m.cls := hown
  have hnm : meth.name = "afterByteOrderMark" := hnm
  have N0 := Fr.nil n0
  rw [ef_2 m a1]
  show own_Go p e below _ T0 (mkF m 0 #[.val (.ref a1), .unset, .unset] [])
  refine own_go (fun t k => XS.aloadN X0.here hx rfl (hb hby d2_0) rfl rfl k) ?_
  show own_Go p e below _ T0 (mkF m 1 #[.val (.ref a1), .unset, .unset] [(.ref a1)])
  refine own_go (own_len X0 hx hZ e0 (Ls := #[.val (.ref a1), .unset, .unset]) (rest := []) V1 (hb hby d2_1)) ?_
  show own_Go p e below _ T0 (mkF m 2 #[.val (.ref a1), .unset, .unset] [(.int (2 : Int32))])
  obtain ⟨T1, X1, e1, st1⟩ := getS2 X0 hx hZ hown (host := "") (Or.inl (own_w hw 9 rfl)) Via.refl e0 (S_BOM.ext O0.2) (g := (mkF m 2 #[.val (.ref a1), .unset, .unset] [(.int (2 : Int32))])) rfl (hb hby d2_2)
  refine own_go st1 ?_
  show own_Go p e below _ T1 (mkF m 5 #[.val (.ref a1), .unset, .unset] [(.ref am), (.int (2 : Int32))])
  refine own_go (own_len X1 hx hZ e1 (Ls := #[.val (.ref a1), .unset, .unset]) (rest := [(.int (2 : Int32))]) (V_BOM.ext O0.2) (hb hby d2_5)) ?_
  show own_Go p e below _ T1 (mkF m 6 #[.val (.ref a1), .unset, .unset] [(.int (3 : Int32)), (.int (2 : Int32))])
  refine own_go (fun t k => XS.icmpYes X1.here hx rfl (pc0 := 6) (pc' := 13) rfl (hb hby d2_6) rfl (XT.ii_lt_t (by decide)) (by decide) (by decide) k) ?_
  show own_Go p e below _ T1 (mkF m 13 #[.val (.ref a1), .unset, .unset] [])
  refine own_go (fun t k => XS.iconst X1.here hx rfl (hb hby d2_13) k) ?_
  show own_Go p e below _ T1 (mkF m 14 #[.val (.ref a1), .unset, .unset] [(.int (0 : Int32))])
  refine own_go (fun t k => XS.istoreN X1.here hx rfl (hb hby d2_14) rfl (l' := #[.val (.ref a1), .val (.int (0 : Int32)), .unset]) rfl k) ?_
  show own_Go p e below _ T1 (mkF m 15 #[.val (.ref a1), .val (.int (0 : Int32)), .unset] [])
  refine own_go (fun t k => XS.iconst X1.here hx rfl (hb hby d2_15) k) ?_
  show own_Go p e below _ T1 (mkF m 16 #[.val (.ref a1), .val (.int (0 : Int32)), .unset] [(.int (0 : Int32))])
  refine own_go (fun t k => XS.istoreN X1.here hx rfl (hb hby d2_16) rfl (l' := #[.val (.ref a1), .val (.int (0 : Int32)), .val (.int (0 : Int32))]) rfl k) ?_
  show own_Go p e below _ T1 (mkF m 17 #[.val (.ref a1), .val (.int (0 : Int32)), .val (.int (0 : Int32))] [])
  refine own_go (fun t k => XS.iloadN X1.here hx rfl (hb hby d2_17) rfl k) ?_
  show own_Go p e below _ T1 (mkF m 18 #[.val (.ref a1), .val (.int (0 : Int32)), .val (.int (0 : Int32))] [(.int (0 : Int32))])
  obtain ⟨T2, X2, e2, st2⟩ := getS2 X1 hx hZ hown (host := "") (Or.inl (own_w hw 9 rfl)) Via.refl e1 (S_BOM.ext O0.2) (g := (mkF m 18 #[.val (.ref a1), .val (.int (0 : Int32)), .val (.int (0 : Int32))] [(.int (0 : Int32))])) rfl (hb hby d2_18)
  refine own_go st2 ?_
  show own_Go p e below _ T2 (mkF m 21 #[.val (.ref a1), .val (.int (0 : Int32)), .val (.int (0 : Int32))] [(.ref am), (.int (0 : Int32))])
  refine own_go (own_len X2 hx hZ e2 (Ls := #[.val (.ref a1), .val (.int (0 : Int32)), .val (.int (0 : Int32))]) (rest := [(.int (0 : Int32))]) (V_BOM.ext O0.2) (hb hby d2_21)) ?_
  show own_Go p e below _ T2 (mkF m 22 #[.val (.ref a1), .val (.int (0 : Int32)), .val (.int (0 : Int32))] [(.int (3 : Int32)), (.int (0 : Int32))])
  refine own_go (fun t k => XS.icmpNo X2.here hx rfl (hb hby d2_22) rfl (XT.ii_ge_f (by decide)) k) ?_
  show own_Go p e below _ T2 (mkF m 25 #[.val (.ref a1), .val (.int (0 : Int32)), .val (.int (0 : Int32))] [])
  refine own_go (fun t k => XS.iloadN X2.here hx rfl (hb hby d2_25) rfl k) ?_
  show own_Go p e below _ T2 (mkF m 26 #[.val (.ref a1), .val (.int (0 : Int32)), .val (.int (0 : Int32))] [(.int (0 : Int32))])
  refine own_go (fun t k => XS.ifYes X2.here hx rfl (pc0 := 26) (pc' := 52) rfl (hb hby d2_26) rfl (XT.i0_eq_t (by decide)) (by decide) (by decide) k) ?_
  show own_Go p e below _ T2 (mkF m 52 #[.val (.ref a1), .val (.int (0 : Int32)), .val (.int (0 : Int32))] [])
  refine own_go (fun t k => XS.iloadN X2.here hx rfl (hb hby d2_52) rfl k) ?_
  show own_Go p e below _ T2 (mkF m 53 #[.val (.ref a1), .val (.int (0 : Int32)), .val (.int (0 : Int32))] [(.int (0 : Int32))])
  refine own_go (fun t k => XS.ifYes X2.here hx rfl (pc0 := 53) (pc' := 63) rfl (hb hby d2_53) rfl (XT.i0_eq_t (by decide)) (by decide) (by decide) k) ?_
  show own_Go p e below _ T2 (mkF m 63 #[.val (.ref a1), .val (.int (0 : Int32)), .val (.int (0 : Int32))] [])
  refine own_go (fun t k => XS.iconst X2.here hx rfl (hb hby d2_63) k) ?_
  show own_Go p e below _ T2 (mkF m 64 #[.val (.ref a1), .val (.int (0 : Int32)), .val (.int (0 : Int32))] [(.int (0 : Int32))])
  refine own_retI X2 hx hlk hret (hb hby d2_64) (by decide) (by decide) ?_
  exact ⟨rfl, N0, e2⟩
set_option maxRecDepth 65536 in
set_option maxHeartbeats 40000000 in
theorem rm2_3 (l : Launch) (Z : State) (a0 : Array Value) (hw : ∀ d ∈ tables_1, d.before a0 Z = true) (ws : List Jvm.Cond) (a1 am : Addr) (k1 km : ClassId) (x0 : Int32) (x1 : Int32) (x2 : Int32) (h0 : Heap) (n0 : Nat) (Z0 : n0 ≤ h0.size) (O0 : Old Z n0 h0) (S_BOM : Sta Z Z.heap "com/example/tallygate/tallygate/codec/Utf8Text" "BYTE_ORDER_MARK" "[B" (.ref am)) (V_BOM : Arv Z Z.heap am km .byte (3 : Int32) [(.int (-17 : Int32)), (.int (-69 : Int32)), (.int (-65 : Int32))] (.int 0)) (V1 : Arv Z h0 a1 k1 .byte (3 : Int32) [(.int x0), (.int x1), (.int x2)] (.int 0)) :
    own_Met l Z (⟨"com/example/tallygate/tallygate/codec/Utf8Text", "afterByteOrderMark", "([B)I"⟩ : MethodName) prog_16_method_2_code 3 (some .int) ws ({ frames := 0, cells := 0, slots := 0, locals := 0 } : Room) #[(.ref a1)] h0 (fun v h L => (∃ r : Int32, v = some (.int r) ∧ ((x0 = -17 ∧ x1 = -69 ∧ x2 = -65) → r = 3) ∧ (¬ (x0 = -17 ∧ x1 = -69 ∧ x2 = -65) → r = 0)) ∧ Fr n0 L ∧ h = h0) := by
  refine own_body (by first | exact plainFor_of_name pn_com_example_tallygate_tallygate_codec_Utf8Text | decide +kernel) ?_
  intro p e s m below meth c T0 X0 hx hby hml hret hlk hZ hown hnm e0
  have hown : s.vm.findClass "com/example/tallygate/tallygate/codec/Utf8Text" = some m.cls := hown
  have hnm : meth.name = "afterByteOrderMark" := hnm
  have N0 := Fr.nil n0
  rw [ef_2 m a1]
  show own_Go p e below _ T0 (mkF m 0 #[.val (.ref a1), .unset, .unset] [])
  refine own_go (fun t k => XS.aloadN X0.here hx rfl (hb hby d2_0) rfl rfl k) ?_
  show own_Go p e below _ T0 (mkF m 1 #[.val (.ref a1), .unset, .unset] [(.ref a1)])
  refine own_go (own_len X0 hx hZ e0 (Ls := #[.val (.ref a1), .unset, .unset]) (rest := []) V1 (hb hby d2_1)) ?_
  show own_Go p e below _ T0 (mkF m 2 #[.val (.ref a1), .unset, .unset] [(.int (3 : Int32))])
  obtain ⟨T1, X1, e1, st1⟩ := getS2 X0 hx hZ hown (host := "") (Or.inl (own_w hw 9 rfl)) Via.refl e0 (S_BOM.ext O0.2) (g := (mkF m 2 #[.val (.ref a1), .unset, .unset] [(.int (3 : Int32))])) rfl (hb hby d2_2)
  refine own_go st1 ?_
  show own_Go p e below _ T1 (mkF m 5 #[.val (.ref a1), .unset, .unset] [(.ref am), (.int (3 : Int32))])
  refine own_go (own_len X1 hx hZ e1 (Ls := #[.val (.ref a1), .unset, .unset]) (rest := [(.int (3 : Int32))]) (V_BOM.ext O0.2) (hb hby d2_5)) ?_
  show own_Go p e below _ T1 (mkF m 6 #[.val (.ref a1), .unset, .unset] [(.int (3 : Int32)), (.int (3 : Int32))])
  refine own_go (fun t k => XS.icmpNo X1.here hx rfl (hb hby d2_6) rfl (XT.ii_lt_f (by decide)) k) ?_
  show own_Go p e below _ T1 (mkF m 9 #[.val (.ref a1), .unset, .unset] [])
  refine own_go (fun t k => XS.iconst X1.here hx rfl (hb hby d2_9) k) ?_
  show own_Go p e below _ T1 (mkF m 10 #[.val (.ref a1), .unset, .unset] [(.int (1 : Int32))])
  refine own_go (fun t k => XS.goto X1.here hx rfl (pc0 := 10) (pc' := 14) rfl (hb hby d2_10) (by decide) (by decide) k) ?_
  show own_Go p e below _ T1 (mkF m 14 #[.val (.ref a1), .unset, .unset] [(.int (1 : Int32))])
  refine own_go (fun t k => XS.istoreN X1.here hx rfl (hb hby d2_14) rfl (l' := #[.val (.ref a1), .val (.int (1 : Int32)), .unset]) rfl k) ?_
  show own_Go p e below _ T1 (mkF m 15 #[.val (.ref a1), .val (.int (1 : Int32)), .unset] [])
  refine own_go (fun t k => XS.iconst X1.here hx rfl (hb hby d2_15) k) ?_
  show own_Go p e below _ T1 (mkF m 16 #[.val (.ref a1), .val (.int (1 : Int32)), .unset] [(.int (0 : Int32))])
  refine own_go (fun t k => XS.istoreN X1.here hx rfl (hb hby d2_16) rfl (l' := #[.val (.ref a1), .val (.int (1 : Int32)), .val (.int (0 : Int32))]) rfl k) ?_
  show own_Go p e below _ T1 (mkF m 17 #[.val (.ref a1), .val (.int (1 : Int32)), .val (.int (0 : Int32))] [])
  refine own_go (fun t k => XS.iloadN X1.here hx rfl (hb hby d2_17) rfl k) ?_
  show own_Go p e below _ T1 (mkF m 18 #[.val (.ref a1), .val (.int (1 : Int32)), .val (.int (0 : Int32))] [(.int (0 : Int32))])
  obtain ⟨T2, X2, e2, st2⟩ := getS2 X1 hx hZ hown (host := "") (Or.inl (own_w hw 9 rfl)) Via.refl e1 (S_BOM.ext O0.2) (g := (mkF m 18 #[.val (.ref a1), .val (.int (1 : Int32)), .val (.int (0 : Int32))] [(.int (0 : Int32))])) rfl (hb hby d2_18)
  refine own_go st2 ?_
  show own_Go p e below _ T2 (mkF m 21 #[.val (.ref a1), .val (.int (1 : Int32)), .val (.int (0 : Int32))] [(.ref am), (.int (0 : Int32))])
  refine own_go (own_len X2 hx hZ e2 (Ls := #[.val (.ref a1), .val (.int (1 : Int32)), .val (.int (0 : Int32))]) (rest := [(.int (0 : Int32))]) (V_BOM.ext O0.2) (hb hby d2_21)) ?_
  show own_Go p e below _ T2 (mkF m 22 #[.val (.ref a1), .val (.int (1 : Int32)), .val (.int (0 : Int32))] [(.int (3 : Int32)), (.int (0 : Int32))])
  refine own_go (fun t k => XS.icmpNo X2.here hx rfl (hb hby d2_22) rfl (XT.ii_ge_f (by decide)) k) ?_
  show own_Go p e below _ T2 (mkF m 25 #[.val (.ref a1), .val (.int (1 : Int32)), .val (.int (0 : Int32))] [])
  refine own_go (fun t k => XS.iloadN X2.here hx rfl (hb hby d2_25) rfl k) ?_
  show own_Go p e below _ T2 (mkF m 26 #[.val (.ref a1), .val (.int (1 : Int32)), .val (.int (0 : Int32))] [(.int (1 : Int32))])
  refine own_go (fun t k => XS.ifNo X2.here hx rfl (hb hby d2_26) rfl (XT.i0_eq_f (by decide)) k) ?_
  show own_Go p e below _ T2 (mkF m 29 #[.val (.ref a1), .val (.int (1 : Int32)), .val (.int (0 : Int32))] [])
  refine own_go (fun t k => XS.aloadN X2.here hx rfl (hb hby d2_29) rfl rfl k) ?_
  show own_Go p e below _ T2 (mkF m 30 #[.val (.ref a1), .val (.int (1 : Int32)), .val (.int (0 : Int32))] [(.ref a1)])
  refine own_go (fun t k => XS.iloadN X2.here hx rfl (hb hby d2_30) rfl k) ?_
  show own_Go p e below _ T2 (mkF m 31 #[.val (.ref a1), .val (.int (1 : Int32)), .val (.int (0 : Int32))] [(.int (0 : Int32)), (.ref a1)])
  refine own_go (own_ldB X2 hx hZ e2 (Ls := #[.val (.ref a1), .val (.int (1 : Int32)), .val (.int (0 : Int32))]) (rest := []) V1 (j := (0 : Int32)) (by decide) (v := (.int x0)) rfl (hb hby d2_31)) ?_
  show own_Go p e below _ T2 (mkF m 32 #[.val (.ref a1), .val (.int (1 : Int32)), .val (.int (0 : Int32))] [(.int x0)])
  obtain ⟨T3, X3, e3, st3⟩ := getS2 X2 hx hZ hown (host := "") (Or.inl (own_w hw 9 rfl)) Via.refl e2 (S_BOM.ext O0.2) (g := (mkF m 32 #[.val (.ref a1), .val (.int (1 : Int32)), .val (.int (0 : Int32))] [(.int x0)])) rfl (hb hby d2_32)
  refine own_go st3 ?_
  show own_Go p e below _ T3 (mkF m 35 #[.val (.ref a1), .val (.int (1 : Int32)), .val (.int (0 : Int32))] [(.ref am), (.int x0)])
  refine own_go (fun t k => XS.iloadN X3.here hx rfl (hb hby d2_35) rfl k) ?_
  show own_Go p e below _ T3 (mkF m 36 #[.val (.ref a1), .val (.int (1 : Int32)), .val (.int (0 : Int32))] [(.int (0 : Int32)), (.ref am), (.int x0)])
  refine own_go (own_ldB X3 hx hZ e3 (Ls := #[.val (.ref a1), .val (.int (1 : Int32)), .val (.int (0 : Int32))]) (rest := [(.int x0)]) (V_BOM.ext O0.2) (j := (0 : Int32)) (by decide) (v := (.int (-17 : Int32))) rfl (hb hby d2_36)) ?_
  show own_Go p e below _ T3 (mkF m 37 #[.val (.ref a1), .val (.int (1 : Int32)), .val (.int (0 : Int32))] [(.int (-17 : Int32)), (.int x0)])
  by_cases hx0 : x0 = (-17 : Int32)
  · show own_Go p e below _ T3 (mkF m 37 #[.val (.ref a1), .val (.int (1 : Int32)), .val (.int (0 : Int32))] [(.int (-17 : Int32)), (.int x0)])
    refine own_go (fun t k => XS.icmpNo X3.here hx rfl (hb hby d2_37) rfl (XT.ii_ne_f hx0) k) ?_
    show own_Go p e below _ T3 (mkF m 40 #[.val (.ref a1), .val (.int (1 : Int32)), .val (.int (0 : Int32))] [])
    refine own_go (fun t k => XS.iconst X3.here hx rfl (hb hby d2_40) k) ?_
    show own_Go p e below _ T3 (mkF m 41 #[.val (.ref a1), .val (.int (1 : Int32)), .val (.int (0 : Int32))] [(.int (1 : Int32))])
    refine own_go (fun t k => XS.goto X3.here hx rfl (pc0 := 41) (pc' := 45) rfl (hb hby d2_41) (by decide) (by decide) k) ?_
    show own_Go p e below _ T3 (mkF m 45 #[.val (.ref a1), .val (.int (1 : Int32)), .val (.int (0 : Int32))] [(.int (1 : Int32))])
    refine own_go (fun t k => XS.istoreN X3.here hx rfl (hb hby d2_45) rfl (l' := #[.val (.ref a1), .val (.int (1 : Int32)), .val (.int (0 : Int32))]) rfl k) ?_
    show own_Go p e below _ T3 (mkF m 46 #[.val (.ref a1), .val (.int (1 : Int32)), .val (.int (0 : Int32))] [])
    refine own_go (fun t k => XS.iinc X3.here hx rfl (hb hby d2_46) rfl (l' := #[.val (.ref a1), .val (.int (1 : Int32)), .val (.int ((0 : Int32) + (1 : Int32)))]) rfl k) ?_
    show own_Go p e below _ T3 (mkF m 49 #[.val (.ref a1), .val (.int (1 : Int32)), .val (.int ((0 : Int32) + (1 : Int32)))] [])
    rw [show ((0 : Int32) + (1 : Int32)) = (1 : Int32) from by decide]
    show own_Go p e below _ T3 (mkF m 49 #[.val (.ref a1), .val (.int (1 : Int32)), .val (.int (1 : Int32))] [])
    refine own_go (fun t k => XS.goto X3.here hx rfl (pc0 := 49) (pc' := 17) rfl (hb hby d2_49) (by decide) (by decide) k) ?_
    show own_Go p e below _ T3 (mkF m 17 #[.val (.ref a1), .val (.int (1 : Int32)), .val (.int (1 : Int32))] [])
    refine own_go (fun t k => XS.iloadN X3.here hx rfl (hb hby d2_17) rfl k) ?_
    show own_Go p e below _ T3 (mkF m 18 #[.val (.ref a1), .val (.int (1 : Int32)), .val (.int (1 : Int32))] [(.int (1 : Int32))])
    obtain ⟨T4, X4, e4, st4⟩ := getS2 X3 hx hZ hown (host := "") (Or.inl (own_w hw 9 rfl)) Via.refl e3 (S_BOM.ext O0.2) (g := (mkF m 18 #[.val (.ref a1), .val (.int (1 : Int32)), .val (.int (1 : Int32))] [(.int (1 : Int32))])) rfl (hb hby d2_18)
    refine own_go st4 ?_
    show own_Go p e below _ T4 (mkF m 21 #[.val (.ref a1), .val (.int (1 : Int32)), .val (.int (1 : Int32))] [(.ref am), (.int (1 : Int32))])
    refine own_go (own_len X4 hx hZ e4 (Ls := #[.val (.ref a1), .val (.int (1 : Int32)), .val (.int (1 : Int32))]) (rest := [(.int (1 : Int32))]) (V_BOM.ext O0.2) (hb hby d2_21)) ?_
    show own_Go p e below _ T4 (mkF m 22 #[.val (.ref a1), .val (.int (1 : Int32)), .val (.int (1 : Int32))] [(.int (3 : Int32)), (.int (1 : Int32))])
    refine own_go (fun t k => XS.icmpNo X4.here hx rfl (hb hby d2_22) rfl (XT.ii_ge_f (by decide)) k) ?_
    show own_Go p e below _ T4 (mkF m 25 #[.val (.ref a1), .val (.int (1 : Int32)), .val (.int (1 : Int32))] [])
    refine own_go (fun t k => XS.iloadN X4.here hx rfl (hb hby d2_25) rfl k) ?_
    show own_Go p e below _ T4 (mkF m 26 #[.val (.ref a1), .val (.int (1 : Int32)), .val (.int (1 : Int32))] [(.int (1 : Int32))])
    refine own_go (fun t k => XS.ifNo X4.here hx rfl (hb hby d2_26) rfl (XT.i0_eq_f (by decide)) k) ?_
    show own_Go p e below _ T4 (mkF m 29 #[.val (.ref a1), .val (.int (1 : Int32)), .val (.int (1 : Int32))] [])
    refine own_go (fun t k => XS.aloadN X4.here hx rfl (hb hby d2_29) rfl rfl k) ?_
    show own_Go p e below _ T4 (mkF m 30 #[.val (.ref a1), .val (.int (1 : Int32)), .val (.int (1 : Int32))] [(.ref a1)])
    refine own_go (fun t k => XS.iloadN X4.here hx rfl (hb hby d2_30) rfl k) ?_
    show own_Go p e below _ T4 (mkF m 31 #[.val (.ref a1), .val (.int (1 : Int32)), .val (.int (1 : Int32))] [(.int (1 : Int32)), (.ref a1)])
    refine own_go (own_ldB X4 hx hZ e4 (Ls := #[.val (.ref a1), .val (.int (1 : Int32)), .val (.int (1 : Int32))]) (rest := []) V1 (j := (1 : Int32)) (by decide) (v := (.int x1)) rfl (hb hby d2_31)) ?_
    show own_Go p e below _ T4 (mkF m 32 #[.val (.ref a1), .val (.int (1 : Int32)), .val (.int (1 : Int32))] [(.int x1)])
    obtain ⟨T5, X5, e5, st5⟩ := getS2 X4 hx hZ hown (host := "") (Or.inl (own_w hw 9 rfl)) Via.refl e4 (S_BOM.ext O0.2) (g := (mkF m 32 #[.val (.ref a1), .val (.int (1 : Int32)), .val (.int (1 : Int32))] [(.int x1)])) rfl (hb hby d2_32)
    refine own_go st5 ?_
    show own_Go p e below _ T5 (mkF m 35 #[.val (.ref a1), .val (.int (1 : Int32)), .val (.int (1 : Int32))] [(.ref am), (.int x1)])
    refine own_go (fun t k => XS.iloadN X5.here hx rfl (hb hby d2_35) rfl k) ?_
    show own_Go p e below _ T5 (mkF m 36 #[.val (.ref a1), .val (.int (1 : Int32)), .val (.int (1 : Int32))] [(.int (1 : Int32)), (.ref am), (.int x1)])
    refine own_go (own_ldB X5 hx hZ e5 (Ls := #[.val (.ref a1), .val (.int (1 : Int32)), .val (.int (1 : Int32))]) (rest := [(.int x1)]) (V_BOM.ext O0.2) (j := (1 : Int32)) (by decide) (v := (.int (-69 : Int32))) rfl (hb hby d2_36)) ?_
    show own_Go p e below _ T5 (mkF m 37 #[.val (.ref a1), .val (.int (1 : Int32)), .val (.int (1 : Int32))] [(.int (-69 : Int32)), (.int x1)])
    by_cases hx1 : x1 = (-69 : Int32)
    · show own_Go p e below _ T5 (mkF m 37 #[.val (.ref a1), .val (.int (1 : Int32)), .val (.int (1 : Int32))] [(.int (-69 : Int32)), (.int x1)])
      refine own_go (fun t k => XS.icmpNo X5.here hx rfl (hb hby d2_37) rfl (XT.ii_ne_f hx1) k) ?_
      show own_Go p e below _ T5 (mkF m 40 #[.val (.ref a1), .val (.int (1 : Int32)), .val (.int (1 : Int32))] [])
      refine own_go (fun t k => XS.iconst X5.here hx rfl (hb hby d2_40) k) ?_
      show own_Go p e below _ T5 (mkF m 41 #[.val (.ref a1), .val (.int (1 : Int32)), .val (.int (1 : Int32))] [(.int (1 : Int32))])
      refine own_go (fun t k => XS.goto X5.here hx rfl (pc0 := 41) (pc' := 45) rfl (hb hby d2_41) (by decide) (by decide) k) ?_
      show own_Go p e below _ T5 (mkF m 45 #[.val (.ref a1), .val (.int (1 : Int32)), .val (.int (1 : Int32))] [(.int (1 : Int32))])
      refine own_go (fun t k => XS.istoreN X5.here hx rfl (hb hby d2_45) rfl (l' := #[.val (.ref a1), .val (.int (1 : Int32)), .val (.int (1 : Int32))]) rfl k) ?_
      show own_Go p e below _ T5 (mkF m 46 #[.val (.ref a1), .val (.int (1 : Int32)), .val (.int (1 : Int32))] [])
      refine own_go (fun t k => XS.iinc X5.here hx rfl (hb hby d2_46) rfl (l' := #[.val (.ref a1), .val (.int (1 : Int32)), .val (.int ((1 : Int32) + (1 : Int32)))]) rfl k) ?_
      show own_Go p e below _ T5 (mkF m 49 #[.val (.ref a1), .val (.int (1 : Int32)), .val (.int ((1 : Int32) + (1 : Int32)))] [])
      rw [show ((1 : Int32) + (1 : Int32)) = (2 : Int32) from by decide]
      show own_Go p e below _ T5 (mkF m 49 #[.val (.ref a1), .val (.int (1 : Int32)), .val (.int (2 : Int32))] [])
      refine own_go (fun t k => XS.goto X5.here hx rfl (pc0 := 49) (pc' := 17) rfl (hb hby d2_49) (by decide) (by decide) k) ?_
      show own_Go p e below _ T5 (mkF m 17 #[.val (.ref a1), .val (.int (1 : Int32)), .val (.int (2 : Int32))] [])
      refine own_go (fun t k => XS.iloadN X5.here hx rfl (hb hby d2_17) rfl k) ?_
      show own_Go p e below _ T5 (mkF m 18 #[.val (.ref a1), .val (.int (1 : Int32)), .val (.int (2 : Int32))] [(.int (2 : Int32))])
      obtain ⟨T6, X6, e6, st6⟩ := getS2 X5 hx hZ hown (host := "") (Or.inl (own_w hw 9 rfl)) Via.refl e5 (S_BOM.ext O0.2) (g := (mkF m 18 #[.val (.ref a1), .val (.int (1 : Int32)), .val (.int (2 : Int32))] [(.int (2 : Int32))])) rfl (hb hby d2_18)
      refine own_go st6 ?_
      show own_Go p e below _ T6 (mkF m 21 #[.val (.ref a1), .val (.int (1 : Int32)), .val (.int (2 : Int32))] [(.ref am), (.int (2 : Int32))])
      refine own_go (own_len X6 hx hZ e6 (Ls := #[.val (.ref a1), .val (.int (1 : Int32)), .val (.int (2 : Int32))]) (rest := [(.int (2 : Int32))]) (V_BOM.ext O0.2) (hb hby d2_21)) ?_
      show own_Go p e below _ T6 (mkF m 22 #[.val (.ref a1), .val (.int (1 : Int32)), .val (.int (2 : Int32))] [(.int (3 : Int32)), (.int (2 : Int32))])
      refine own_go (fun t k => XS.icmpNo X6.here hx rfl (hb hby d2_22) rfl (XT.ii_ge_f (by decide)) k) ?_
      show own_Go p e below _ T6 (mkF m 25 #[.val (.ref a1), .val (.int (1 : Int32)), .val (.int (2 : Int32))] [])
      refine own_go (fun t k => XS.iloadN X6.here hx rfl (hb hby d2_25) rfl k) ?_
      show own_Go p e below _ T6 (mkF m 26 #[.val (.ref a1), .val (.int (1 : Int32)), .val (.int (2 : Int32))] [(.int (1 : Int32))])
      refine own_go (fun t k => XS.ifNo X6.here hx rfl (hb hby d2_26) rfl (XT.i0_eq_f (by decide)) k) ?_
      show own_Go p e below _ T6 (mkF m 29 #[.val (.ref a1), .val (.int (1 : Int32)), .val (.int (2 : Int32))] [])
      refine own_go (fun t k => XS.aloadN X6.here hx rfl (hb hby d2_29) rfl rfl k) ?_
      show own_Go p e below _ T6 (mkF m 30 #[.val (.ref a1), .val (.int (1 : Int32)), .val (.int (2 : Int32))] [(.ref a1)])
      refine own_go (fun t k => XS.iloadN X6.here hx rfl (hb hby d2_30) rfl k) ?_
      show own_Go p e below _ T6 (mkF m 31 #[.val (.ref a1), .val (.int (1 : Int32)), .val (.int (2 : Int32))] [(.int (2 : Int32)), (.ref a1)])
      refine own_go (own_ldB X6 hx hZ e6 (Ls := #[.val (.ref a1), .val (.int (1 : Int32)), .val (.int (2 : Int32))]) (rest := []) V1 (j := (2 : Int32)) (by decide) (v := (.int x2)) rfl (hb hby d2_31)) ?_
      show own_Go p e below _ T6 (mkF m 32 #[.val (.ref a1), .val (.int (1 : Int32)), .val (.int (2 : Int32))] [(.int x2)])
      obtain ⟨T7, X7, e7, st7⟩ := getS2 X6 hx hZ hown (host := "") (Or.inl (own_w hw 9 rfl)) Via.refl e6 (S_BOM.ext O0.2) (g := (mkF m 32 #[.val (.ref a1), .val (.int (1 : Int32)), .val (.int (2 : Int32))] [(.int x2)])) rfl (hb hby d2_32)
      refine own_go st7 ?_
      show own_Go p e below _ T7 (mkF m 35 #[.val (.ref a1), .val (.int (1 : Int32)), .val (.int (2 : Int32))] [(.ref am), (.int x2)])
      refine own_go (fun t k => XS.iloadN X7.here hx rfl (hb hby d2_35) rfl k) ?_
      show own_Go p e below _ T7 (mkF m 36 #[.val (.ref a1), .val (.int (1 : Int32)), .val (.int (2 : Int32))] [(.int (2 : Int32)), (.ref am), (.int x2)])
      refine own_go (own_ldB X7 hx hZ e7 (Ls := #[.val (.ref a1), .val (.int (1 : Int32)), .val (.int (2 : Int32))]) (rest := [(.int x2)]) (V_BOM.ext O0.2) (j := (2 : Int32)) (by decide) (v := (.int (-65 : Int32))) rfl (hb hby d2_36)) ?_
      show own_Go p e below _ T7 (mkF m 37 #[.val (.ref a1), .val (.int (1 : Int32)), .val (.int (2 : Int32))] [(.int (-65 : Int32)), (.int x2)])
      by_cases hx2 : x2 = (-65 : Int32)
      · show own_Go p e below _ T7 (mkF m 37 #[.val (.ref a1), .val (.int (1 : Int32)), .val (.int (2 : Int32))] [(.int (-65 : Int32)), (.int x2)])
        refine own_go (fun t k => XS.icmpNo X7.here hx rfl (hb hby d2_37) rfl (XT.ii_ne_f hx2) k) ?_
        show own_Go p e below _ T7 (mkF m 40 #[.val (.ref a1), .val (.int (1 : Int32)), .val (.int (2 : Int32))] [])
        refine own_go (fun t k => XS.iconst X7.here hx rfl (hb hby d2_40) k) ?_
        show own_Go p e below _ T7 (mkF m 41 #[.val (.ref a1), .val (.int (1 : Int32)), .val (.int (2 : Int32))] [(.int (1 : Int32))])
        refine own_go (fun t k => XS.goto X7.here hx rfl (pc0 := 41) (pc' := 45) rfl (hb hby d2_41) (by decide) (by decide) k) ?_
        show own_Go p e below _ T7 (mkF m 45 #[.val (.ref a1), .val (.int (1 : Int32)), .val (.int (2 : Int32))] [(.int (1 : Int32))])
        refine own_go (fun t k => XS.istoreN X7.here hx rfl (hb hby d2_45) rfl (l' := #[.val (.ref a1), .val (.int (1 : Int32)), .val (.int (2 : Int32))]) rfl k) ?_
        show own_Go p e below _ T7 (mkF m 46 #[.val (.ref a1), .val (.int (1 : Int32)), .val (.int (2 : Int32))] [])
        refine own_go (fun t k => XS.iinc X7.here hx rfl (hb hby d2_46) rfl (l' := #[.val (.ref a1), .val (.int (1 : Int32)), .val (.int ((2 : Int32) + (1 : Int32)))]) rfl k) ?_
        show own_Go p e below _ T7 (mkF m 49 #[.val (.ref a1), .val (.int (1 : Int32)), .val (.int ((2 : Int32) + (1 : Int32)))] [])
        rw [show ((2 : Int32) + (1 : Int32)) = (3 : Int32) from by decide]
        show own_Go p e below _ T7 (mkF m 49 #[.val (.ref a1), .val (.int (1 : Int32)), .val (.int (3 : Int32))] [])
        refine own_go (fun t k => XS.goto X7.here hx rfl (pc0 := 49) (pc' := 17) rfl (hb hby d2_49) (by decide) (by decide) k) ?_
        show own_Go p e below _ T7 (mkF m 17 #[.val (.ref a1), .val (.int (1 : Int32)), .val (.int (3 : Int32))] [])
        refine own_go (fun t k => XS.iloadN X7.here hx rfl (hb hby d2_17) rfl k) ?_
        show own_Go p e below _ T7 (mkF m 18 #[.val (.ref a1), .val (.int (1 : Int32)), .val (.int (3 : Int32))] [(.int (3 : Int32))])
        obtain ⟨T8, X8, e8, st8⟩ := getS2 X7 hx hZ hown (host := "") (Or.inl (own_w hw 9 rfl)) Via.refl e7 (S_BOM.ext O0.2) (g := (mkF m 18 #[.val (.ref a1), .val (.int (1 : Int32)), .val (.int (3 : Int32))] [(.int (3 : Int32))])) rfl (hb hby d2_18)
        refine own_go st8 ?_
        show own_Go p e below _ T8 (mkF m 21 #[.val (.ref a1), .val (.int (1 : Int32)), .val (.int (3 : Int32))] [(.ref am), (.int (3 : Int32))])
        refine own_go (own_len X8 hx hZ e8 (Ls := #[.val (.ref a1), .val (.int (1 : Int32)), .val (.int (3 : Int32))]) (rest := [(.int (3 : Int32))]) (V_BOM.ext O0.2) (hb hby d2_21)) ?_
        show own_Go p e below _ T8 (mkF m 22 #[.val (.ref a1), .val (.int (1 : Int32)), .val (.int (3 : Int32))] [(.int (3 : Int32)), (.int (3 : Int32))])
        refine own_go (fun t k => XS.icmpYes X8.here hx rfl (pc0 := 22) (pc' := 52) rfl (hb hby d2_22) rfl (XT.ii_ge_t (by decide)) (by decide) (by decide) k) ?_
        show own_Go p e below _ T8 (mkF m 52 #[.val (.ref a1), .val (.int (1 : Int32)), .val (.int (3 : Int32))] [])
        refine own_go (fun t k => XS.iloadN X8.here hx rfl (hb hby d2_52) rfl k) ?_
        show own_Go p e below _ T8 (mkF m 53 #[.val (.ref a1), .val (.int (1 : Int32)), .val (.int (3 : Int32))] [(.int (1 : Int32))])
        refine own_go (fun t k => XS.ifNo X8.here hx rfl (hb hby d2_53) rfl (XT.i0_eq_f (by decide)) k) ?_
        show own_Go p e below _ T8 (mkF m 56 #[.val (.ref a1), .val (.int (1 : Int32)), .val (.int (3 : Int32))] [])
        obtain ⟨T9, X9, e9, st9⟩ := getS2 X8 hx hZ hown (host := "") (Or.inl (own_w hw 9 rfl)) Via.refl e8 (S_BOM.ext O0.2) (g := (mkF m 56 #[.val (.ref a1), .val (.int (1 : Int32)), .val (.int (3 : Int32))] [])) rfl (hb hby d2_56)
        refine own_go st9 ?_
        show own_Go p e below _ T9 (mkF m 59 #[.val (.ref a1), .val (.int (1 : Int32)), .val (.int (3 : Int32))] [(.ref am)])
        refine own_go (own_len X9 hx hZ e9 (Ls := #[.val (.ref a1), .val (.int (1 : Int32)), .val (.int (3 : Int32))]) (rest := []) (V_BOM.ext O0.2) (hb hby d2_59)) ?_
        show own_Go p e below _ T9 (mkF m 60 #[.val (.ref a1), .val (.int (1 : Int32)), .val (.int (3 : Int32))] [(.int (3 : Int32))])
        refine own_go (fun t k => XS.goto X9.here hx rfl (pc0 := 60) (pc' := 64) rfl (hb hby d2_60) (by decide) (by decide) k) ?_
        show own_Go p e below _ T9 (mkF m 64 #[.val (.ref a1), .val (.int (1 : Int32)), .val (.int (3 : Int32))] [(.int (3 : Int32))])
        refine own_retI X9 hx hlk hret (hb hby d2_64) (by decide) (by decide) ?_
        exact ⟨⟨3, rfl, fun _ => rfl, fun q => absurd ⟨hx0, hx1, hx2⟩ q⟩, N0, e9⟩
      · show own_Go p e below _ T7 (mkF m 37 #[.val (.ref a1), .val (.int (1 : Int32)), .val (.int (2 : Int32))] [(.int (-65 : Int32)), (.int x2)])
        refine own_go (fun t k => XS.icmpYes X7.here hx rfl (pc0 := 37) (pc' := 44) rfl (hb hby d2_37) rfl (XT.ii_ne_t hx2) (by decide) (by decide) k) ?_
        show own_Go p e below _ T7 (mkF m 44 #[.val (.ref a1), .val (.int (1 : Int32)), .val (.int (2 : Int32))] [])
        refine own_go (fun t k => XS.iconst X7.here hx rfl (hb hby d2_44) k) ?_
        show own_Go p e below _ T7 (mkF m 45 #[.val (.ref a1), .val (.int (1 : Int32)), .val (.int (2 : Int32))] [(.int (0 : Int32))])
        refine own_go (fun t k => XS.istoreN X7.here hx rfl (hb hby d2_45) rfl (l' := #[.val (.ref a1), .val (.int (0 : Int32)), .val (.int (2 : Int32))]) rfl k) ?_
        show own_Go p e below _ T7 (mkF m 46 #[.val (.ref a1), .val (.int (0 : Int32)), .val (.int (2 : Int32))] [])
        refine own_go (fun t k => XS.iinc X7.here hx rfl (hb hby d2_46) rfl (l' := #[.val (.ref a1), .val (.int (0 : Int32)), .val (.int ((2 : Int32) + (1 : Int32)))]) rfl k) ?_
        show own_Go p e below _ T7 (mkF m 49 #[.val (.ref a1), .val (.int (0 : Int32)), .val (.int ((2 : Int32) + (1 : Int32)))] [])
        rw [show ((2 : Int32) + (1 : Int32)) = (3 : Int32) from by decide]
        show own_Go p e below _ T7 (mkF m 49 #[.val (.ref a1), .val (.int (0 : Int32)), .val (.int (3 : Int32))] [])
        refine own_go (fun t k => XS.goto X7.here hx rfl (pc0 := 49) (pc' := 17) rfl (hb hby d2_49) (by decide) (by decide) k) ?_
        show own_Go p e below _ T7 (mkF m 17 #[.val (.ref a1), .val (.int (0 : Int32)), .val (.int (3 : Int32))] [])
        refine own_go (fun t k => XS.iloadN X7.here hx rfl (hb hby d2_17) rfl k) ?_
        show own_Go p e below _ T7 (mkF m 18 #[.val (.ref a1), .val (.int (0 : Int32)), .val (.int (3 : Int32))] [(.int (3 : Int32))])
        obtain ⟨T10, X10, e10, st10⟩ := getS2 X7 hx hZ hown (host := "") (Or.inl (own_w hw 9 rfl)) Via.refl e7 (S_BOM.ext O0.2) (g := (mkF m 18 #[.val (.ref a1), .val (.int (0 : Int32)), .val (.int (3 : Int32))] [(.int (3 : Int32))])) rfl (hb hby d2_18)
        refine own_go st10 ?_
        show own_Go p e below _ T10 (mkF m 21 #[.val (.ref a1), .val (.int (0 : Int32)), .val (.int (3 : Int32))] [(.ref am), (.int (3 : Int32))])
        refine own_go (own_len X10 hx hZ e10 (Ls := #[.val (.ref a1), .val (.int (0 : Int32)), .val (.int (3 : Int32))]) (rest := [(.int (3 : Int32))]) (V_BOM.ext O0.2) (hb hby d2_21)) ?_
        show own_Go p e below _ T10 (mkF m 22 #[.val (.ref a1), .val (.int (0 : Int32)), .val (.int (3 : Int32))] [(.int (3 : Int32)), (.int (3 : Int32))])
        refine own_go (fun t k => XS.icmpYes X10.here hx rfl (pc0 := 22) (pc' := 52) rfl (hb hby d2_22) rfl (XT.ii_ge_t (by decide)) (by decide) (by decide) k) ?_
        show own_Go p e below _ T10 (mkF m 52 #[.val (.ref a1), .val (.int (0 : Int32)), .val (.int (3 : Int32))] [])
        refine own_go (fun t k => XS.iloadN X10.here hx rfl (hb hby d2_52) rfl k) ?_
        show own_Go p e below _ T10 (mkF m 53 #[.val (.ref a1), .val (.int (0 : Int32)), .val (.int (3 : Int32))] [(.int (0 : Int32))])
        refine own_go (fun t k => XS.ifYes X10.here hx rfl (pc0 := 53) (pc' := 63) rfl (hb hby d2_53) rfl (XT.i0_eq_t (by decide)) (by decide) (by decide) k) ?_
        show own_Go p e below _ T10 (mkF m 63 #[.val (.ref a1), .val (.int (0 : Int32)), .val (.int (3 : Int32))] [])
        refine own_go (fun t k => XS.iconst X10.here hx rfl (hb hby d2_63) k) ?_
        show own_Go p e below _ T10 (mkF m 64 #[.val (.ref a1), .val (.int (0 : Int32)), .val (.int (3 : Int32))] [(.int (0 : Int32))])
        refine own_retI X10 hx hlk hret (hb hby d2_64) (by decide) (by decide) ?_
        exact ⟨⟨0, rfl, fun q => absurd q.2.2 hx2, fun _ => rfl⟩, N0, e10⟩
    · show own_Go p e below _ T5 (mkF m 37 #[.val (.ref a1), .val (.int (1 : Int32)), .val (.int (1 : Int32))] [(.int (-69 : Int32)), (.int x1)])
      refine own_go (fun t k => XS.icmpYes X5.here hx rfl (pc0 := 37) (pc' := 44) rfl (hb hby d2_37) rfl (XT.ii_ne_t hx1) (by decide) (by decide) k) ?_
      show own_Go p e below _ T5 (mkF m 44 #[.val (.ref a1), .val (.int (1 : Int32)), .val (.int (1 : Int32))] [])
      refine own_go (fun t k => XS.iconst X5.here hx rfl (hb hby d2_44) k) ?_
      show own_Go p e below _ T5 (mkF m 45 #[.val (.ref a1), .val (.int (1 : Int32)), .val (.int (1 : Int32))] [(.int (0 : Int32))])
      refine own_go (fun t k => XS.istoreN X5.here hx rfl (hb hby d2_45) rfl (l' := #[.val (.ref a1), .val (.int (0 : Int32)), .val (.int (1 : Int32))]) rfl k) ?_
      show own_Go p e below _ T5 (mkF m 46 #[.val (.ref a1), .val (.int (0 : Int32)), .val (.int (1 : Int32))] [])
      refine own_go (fun t k => XS.iinc X5.here hx rfl (hb hby d2_46) rfl (l' := #[.val (.ref a1), .val (.int (0 : Int32)), .val (.int ((1 : Int32) + (1 : Int32)))]) rfl k) ?_
      show own_Go p e below _ T5 (mkF m 49 #[.val (.ref a1), .val (.int (0 : Int32)), .val (.int ((1 : Int32) + (1 : Int32)))] [])
      rw [show ((1 : Int32) + (1 : Int32)) = (2 : Int32) from by decide]
      show own_Go p e below _ T5 (mkF m 49 #[.val (.ref a1), .val (.int (0 : Int32)), .val (.int (2 : Int32))] [])
      refine own_go (fun t k => XS.goto X5.here hx rfl (pc0 := 49) (pc' := 17) rfl (hb hby d2_49) (by decide) (by decide) k) ?_
      show own_Go p e below _ T5 (mkF m 17 #[.val (.ref a1), .val (.int (0 : Int32)), .val (.int (2 : Int32))] [])
      refine own_go (fun t k => XS.iloadN X5.here hx rfl (hb hby d2_17) rfl k) ?_
      show own_Go p e below _ T5 (mkF m 18 #[.val (.ref a1), .val (.int (0 : Int32)), .val (.int (2 : Int32))] [(.int (2 : Int32))])
      obtain ⟨T11, X11, e11, st11⟩ := getS2 X5 hx hZ hown (host := "") (Or.inl (own_w hw 9 rfl)) Via.refl e5 (S_BOM.ext O0.2) (g := (mkF m 18 #[.val (.ref a1), .val (.int (0 : Int32)), .val (.int (2 : Int32))] [(.int (2 : Int32))])) rfl (hb hby d2_18)
      refine own_go st11 ?_
      show own_Go p e below _ T11 (mkF m 21 #[.val (.ref a1), .val (.int (0 : Int32)), .val (.int (2 : Int32))] [(.ref am), (.int (2 : Int32))])
      refine own_go (own_len X11 hx hZ e11 (Ls := #[.val (.ref a1), .val (.int (0 : Int32)), .val (.int (2 : Int32))]) (rest := [(.int (2 : Int32))]) (V_BOM.ext O0.2) (hb hby d2_21)) ?_
      show own_Go p e below _ T11 (mkF m 22 #[.val (.ref a1), .val (.int (0 : Int32)), .val (.int (2 : Int32))] [(.int (3 : Int32)), (.int (2 : Int32))])
      refine own_go (fun t k => XS.icmpNo X11.here hx rfl (hb hby d2_22) rfl (XT.ii_ge_f (by decide)) k) ?_
      show own_Go p e below _ T11 (mkF m 25 #[.val (.ref a1), .val (.int (0 : Int32)), .val (.int (2 : Int32))] [])
      refine own_go (fun t k => XS.iloadN X11.here hx rfl (hb hby d2_25) rfl k) ?_
      show own_Go p e below _ T11 (mkF m 26 #[.val (.ref a1), .val (.int (0 : Int32)), .val (.int (2 : Int32))] [(.int (0 : Int32))])
      refine own_go (fun t k => XS.ifYes X11.here hx rfl (pc0 := 26) (pc' := 52) rfl (hb hby d2_26) rfl (XT.i0_eq_t (by decide)) (by decide) (by decide) k) ?_
      show own_Go p e below _ T11 (mkF m 52 #[.val (.ref a1), .val (.int (0 : Int32)), .val (.int (2 : Int32))] [])
      refine own_go (fun t k => XS.iloadN X11.here hx rfl (hb hby d2_52) rfl k) ?_
      show own_Go p e below _ T11 (mkF m 53 #[.val (.ref a1), .val (.int (0 : Int32)), .val (.int (2 : Int32))] [(.int (0 : Int32))])
      refine own_go (fun t k => XS.ifYes X11.here hx rfl (pc0 := 53) (pc' := 63) rfl (hb hby d2_53) rfl (XT.i0_eq_t (by decide)) (by decide) (by decide) k) ?_
      show own_Go p e below _ T11 (mkF m 63 #[.val (.ref a1), .val (.int (0 : Int32)), .val (.int (2 : Int32))] [])
      refine own_go (fun t k => XS.iconst X11.here hx rfl (hb hby d2_63) k) ?_
      show own_Go p e below _ T11 (mkF m 64 #[.val (.ref a1), .val (.int (0 : Int32)), .val (.int (2 : Int32))] [(.int (0 : Int32))])
      refine own_retI X11 hx hlk hret (hb hby d2_64) (by decide) (by decide) ?_
      exact ⟨⟨0, rfl, fun q => absurd q.2.1 hx1, fun _ => rfl⟩, N0, e11⟩
  · show own_Go p e below _ T3 (mkF m 37 #[.val (.ref a1), .val (.int (1 : Int32)), .val (.int (0 : Int32))] [(.int (-17 : Int32)), (.int x0)])
    refine own_go (fun t k => XS.icmpYes X3.here hx rfl (pc0 := 37) (pc' := 44) rfl (hb hby d2_37) rfl (XT.ii_ne_t hx0) (by decide) (by decide) k) ?_
    show own_Go p e below _ T3 (mkF m 44 #[.val (.ref a1), .val (.int (1 : Int32)), .val (.int (0 : Int32))] [])
    refine own_go (fun t k => XS.iconst X3.here hx rfl (hb hby d2_44) k) ?_
    show own_Go p e below _ T3 (mkF m 45 #[.val (.ref a1), .val (.int (1 : Int32)), .val (.int (0 : Int32))] [(.int (0 : Int32))])
    refine own_go (fun t k => XS.istoreN X3.here hx rfl (hb hby d2_45) rfl (l' := #[.val (.ref a1), .val (.int (0 : Int32)), .val (.int (0 : Int32))]) rfl k) ?_
    show own_Go p e below _ T3 (mkF m 46 #[.val (.ref a1), .val (.int (0 : Int32)), .val (.int (0 : Int32))] [])
    refine own_go (fun t k => XS.iinc X3.here hx rfl (hb hby d2_46) rfl (l' := #[.val (.ref a1), .val (.int (0 : Int32)), .val (.int ((0 : Int32) + (1 : Int32)))]) rfl k) ?_
    show own_Go p e below _ T3 (mkF m 49 #[.val (.ref a1), .val (.int (0 : Int32)), .val (.int ((0 : Int32) + (1 : Int32)))] [])
    rw [show ((0 : Int32) + (1 : Int32)) = (1 : Int32) from by decide]
    show own_Go p e below _ T3 (mkF m 49 #[.val (.ref a1), .val (.int (0 : Int32)), .val (.int (1 : Int32))] [])
    refine own_go (fun t k => XS.goto X3.here hx rfl (pc0 := 49) (pc' := 17) rfl (hb hby d2_49) (by decide) (by decide) k) ?_
    show own_Go p e below _ T3 (mkF m 17 #[.val (.ref a1), .val (.int (0 : Int32)), .val (.int (1 : Int32))] [])
    refine own_go (fun t k => XS.iloadN X3.here hx rfl (hb hby d2_17) rfl k) ?_
    show own_Go p e below _ T3 (mkF m 18 #[.val (.ref a1), .val (.int (0 : Int32)), .val (.int (1 : Int32))] [(.int (1 : Int32))])
    obtain ⟨T12, X12, e12, st12⟩ := getS2 X3 hx hZ hown (host := "") (Or.inl (own_w hw 9 rfl)) Via.refl e3 (S_BOM.ext O0.2) (g := (mkF m 18 #[.val (.ref a1), .val (.int (0 : Int32)), .val (.int (1 : Int32))] [(.int (1 : Int32))])) rfl (hb hby d2_18)
    refine own_go st12 ?_
    show own_Go p e below _ T12 (mkF m 21 #[.val (.ref a1), .val (.int (0 : Int32)), .val (.int (1 : Int32))] [(.ref am), (.int (1 : Int32))])
    refine own_go (own_len X12 hx hZ e12 (Ls := #[.val (.ref a1), .val (.int (0 : Int32)), .val (.int (1 : Int32))]) (rest := [(.int (1 : Int32))]) (V_BOM.ext O0.2) (hb hby d2_21)) ?_
    show own_Go p e below _ T12 (mkF m 22 #[.val (.ref a1), .val (.int (0 : Int32)), .val (.int (1 : Int32))] [(.int (3 : Int32)), (.int (1 : Int32))])
    refine own_go (fun t k => XS.icmpNo X12.here hx rfl (hb hby d2_22) rfl (XT.ii_ge_f (by decide)) k) ?_
    show own_Go p e below _ T12 (mkF m 25 #[.val (.ref a1), .val (.int (0 : Int32)), .val (.int (1 : Int32))] [])
    refine own_go (fun t k => XS.iloadN X12.here hx rfl (hb hby d2_25) rfl k) ?_
    show own_Go p e below _ T12 (mkF m 26 #[.val (.ref a1), .val (.int (0 : Int32)), .val (.int (1 : Int32))] [(.int (0 : Int32))])
    refine own_go (fun t k => XS.ifYes X12.here hx rfl (pc0 := 26) (pc' := 52) rfl (hb hby d2_26) rfl (XT.i0_eq_t (by decide)) (by decide) (by decide) k) ?_
    show own_Go p e below _ T12 (mkF m 52 #[.val (.ref a1), .val (.int (0 : Int32)), .val (.int (1 : Int32))] [])
    refine own_go (fun t k => XS.iloadN X12.here hx rfl (hb hby d2_52) rfl k) ?_
    show own_Go p e below _ T12 (mkF m 53 #[.val (.ref a1), .val (.int (0 : Int32)), .val (.int (1 : Int32))] [(.int (0 : Int32))])
    refine own_go (fun t k => XS.ifYes X12.here hx rfl (pc0 := 53) (pc' := 63) rfl (hb hby d2_53) rfl (XT.i0_eq_t (by decide)) (by decide) (by decide) k) ?_
    show own_Go p e below _ T12 (mkF m 63 #[.val (.ref a1), .val (.int (0 : Int32)), .val (.int (1 : Int32))] [])
    refine own_go (fun t k => XS.iconst X12.here hx rfl (hb hby d2_63) k) ?_
    show own_Go p e below _ T12 (mkF m 64 #[.val (.ref a1), .val (.int (0 : Int32)), .val (.int (1 : Int32))] [(.int (0 : Int32))])
    refine own_retI X12 hx hlk hret (hb hby d2_64) (by decide) (by decide) ?_
    exact ⟨⟨0, rfl, fun q => absurd q.1 hx0, fun _ => rfl⟩, N0, e12⟩
set_option maxRecDepth 65536 in
set_option maxHeartbeats 40000000 in
theorem rm2_4 (l : Launch) (Z : State) (a0 : Array Value) (hw : ∀ d ∈ tables_1, d.before a0 Z = true) (ws : List Jvm.Cond) (a1 am : Addr) (k1 km : ClassId) (x0 : Int32) (x1 : Int32) (x2 : Int32) (x3 : Int32) (h0 : Heap) (n0 : Nat) (Z0 : n0 ≤ h0.size) (O0 : Old Z n0 h0) (S_BOM : Sta Z Z.heap "com/example/tallygate/tallygate/codec/Utf8Text" "BYTE_ORDER_MARK" "[B" (.ref am)) (V_BOM : Arv Z Z.heap am km .byte (3 : Int32) [(.int (-17 : Int32)), (.int (-69 : Int32)), (.int (-65 : Int32))] (.int 0)) (V1 : Arv Z h0 a1 k1 .byte (4 : Int32) [(.int x0), (.int x1), (.int x2), (.int x3)] (.int 0)) :
    own_Met l Z (⟨"com/example/tallygate/tallygate/codec/Utf8Text", "afterByteOrderMark", "([B)I"⟩ : MethodName) prog_16_method_2_code 3 (some .int) ws ({ frames := 0, cells := 0, slots := 0, locals := 0 } : Room) #[(.ref a1)] h0 (fun v h L => (∃ r : Int32, v = some (.int r) ∧ ((x0 = -17 ∧ x1 = -69 ∧ x2 = -65) → r = 3) ∧ (¬ (x0 = -17 ∧ x1 = -69 ∧ x2 = -65) → r = 0)) ∧ Fr n0 L ∧ h = h0) := by
  refine own_body (by first | exact plainFor_of_name pn_com_example_tallygate_tallygate_codec_Utf8Text | decide +kernel) ?_
  intro p e s m below meth c T0 X0 hx hby hml hret hlk hZ hown hnm e0
  have hown : s.vm.findClass "com/example/tallygate/tallygate/codec/Utf8Text" = some m.cls := hown
  have hnm : meth.name = "afterByteOrderMark" := hnm
  have N0 := Fr.nil n0
  rw [ef_2 m a1]
  show own_Go p e below _ T0 (mkF m 0 #[.val (.ref a1), .unset, .unset] [])
  refine own_go (fun t k => XS.aloadN X0.here hx rfl (hb hby d2_0) rfl rfl k) ?_
  show own_Go p e below _ T0 (mkF m 1 #[.val (.ref a1), .unset, .unset] [(.ref a1)])
  refine own_go (own_len X0 hx hZ e0 (Ls := #[.val (.ref a1), .unset, .unset]) (rest := []) V1 (hb hby d2_1)) ?_
  show own_Go p e below _ T0 (mkF m 2 #[.val (.ref a1), .unset, .unset] [(.int (4 : Int32))])
  obtain ⟨T1, X1, e1, st1⟩ := getS2 X0 hx hZ hown (host := "") (Or.inl (own_w hw 9 rfl)) Via.refl e0 (S_BOM.ext O0.2) (g := (mkF m 2 #[.val (.ref a1), .unset, .unset] [(.int (4 : Int32))])) rfl (hb hby d2_2)
  refine own_go st1 ?_
  show own_Go p e below _ T1 (mkF m 5 #[.val (.ref a1), .unset, .unset] [(.ref am), (.int (4 : Int32))])
  refine own_go (own_len X1 hx hZ e1 (Ls := #[.val (.ref a1), .unset, .unset]) (rest := [(.int (4 : Int32))]) (V_BOM.ext O0.2) (hb hby d2_5)) ?_
  show own_Go p e below _ T1 (mkF m 6 #[.val (.ref a1), .unset, .unset] [(.int (3 : Int32)), (.int (4 : Int32))])
  refine own_go (fun t k => XS.icmpNo X1.here hx rfl (hb hby d2_6) rfl (XT.ii_lt_f (by decide)) k) ?_
  show own_Go p e below _ T1 (mkF m 9 #[.val (.ref a1), .unset, .unset] [])
  refine own_go (fun t k => XS.iconst X1.here hx rfl (hb hby d2_9) k) ?_
  show own_Go p e below _ T1 (mkF m 10 #[.val (.ref a1), .unset, .unset] [(.int (1 : Int32))])
  refine own_go (fun t k => XS.goto X1.here hx rfl (pc0 := 10) (pc' := 14) rfl (hb hby d2_10) (by decide) (by decide) k) ?_
  show own_Go p e below _ T1 (mkF m 14 #[.val (.ref a1), .unset, .unset] [(.int (1 : Int32))])
  refine own_go (fun t k => XS.istoreN X1.here hx rfl (hb hby d2_14) rfl (l' := #[.val (.ref a1), .val (.int (1 : Int32)), .unset]) rfl k) ?_
  show own_Go p e below _ T1 (mkF m 15 #[.val (.ref a1), .val (.int (1 : Int32)), .unset] [])
  refine own_go (fun t k => XS.iconst X1.here hx rfl (hb hby d2_15) k) ?_
  show own_Go p e below _ T1 (mkF m 16 #[.val (.ref a1), .val (.int (1 : Int32)), .unset] [(.int (0 : Int32))])
  refine own_go (fun t k => XS.istoreN X1.here hx rfl (hb hby d2_16) rfl (l' := #[.val (.ref a1), .val (.int (1 : Int32)), .val (.int (0 : Int32))]) rfl k) ?_
  show own_Go p e below _ T1 (mkF m 17 #[.val (.ref a1), .val (.int (1 : Int32)), .val (.int (0 : Int32))] [])
  refine own_go (fun t k => XS.iloadN X1.here hx rfl (hb hby d2_17) rfl k) ?_
  show own_Go p e below _ T1 (mkF m 18 #[.val (.ref a1), .val (.int (1 : Int32)), .val (.int (0 : Int32))] [(.int (0 : Int32))])
  obtain ⟨T2, X2, e2, st2⟩ := getS2 X1 hx hZ hown (host := "") (Or.inl (own_w hw 9 rfl)) Via.refl e1 (S_BOM.ext O0.2) (g := (mkF m 18 #[.val (.ref a1), .val (.int (1 : Int32)), .val (.int (0 : Int32))] [(.int (0 : Int32))])) rfl (hb hby d2_18)
  refine own_go st2 ?_
  show own_Go p e below _ T2 (mkF m 21 #[.val (.ref a1), .val (.int (1 : Int32)), .val (.int (0 : Int32))] [(.ref am), (.int (0 : Int32))])
  refine own_go (own_len X2 hx hZ e2 (Ls := #[.val (.ref a1), .val (.int (1 : Int32)), .val (.int (0 : Int32))]) (rest := [(.int (0 : Int32))]) (V_BOM.ext O0.2) (hb hby d2_21)) ?_
  show own_Go p e below _ T2 (mkF m 22 #[.val (.ref a1), .val (.int (1 : Int32)), .val (.int (0 : Int32))] [(.int (3 : Int32)), (.int (0 : Int32))])
  refine own_go (fun t k => XS.icmpNo X2.here hx rfl (hb hby d2_22) rfl (XT.ii_ge_f (by decide)) k) ?_
  show own_Go p e below _ T2 (mkF m 25 #[.val (.ref a1), .val (.int (1 : Int32)), .val (.int (0 : Int32))] [])
  refine own_go (fun t k => XS.iloadN X2.here hx rfl (hb hby d2_25) rfl k) ?_
  show own_Go p e below _ T2 (mkF m 26 #[.val (.ref a1), .val (.int (1 : Int32)), .val (.int (0 : Int32))] [(.int (1 : Int32))])
  refine own_go (fun t k => XS.ifNo X2.here hx rfl (hb hby d2_26) rfl (XT.i0_eq_f (by decide)) k) ?_
  show own_Go p e below _ T2 (mkF m 29 #[.val (.ref a1), .val (.int (1 : Int32)), .val (.int (0 : Int32))] [])
  refine own_go (fun t k => XS.aloadN X2.here hx rfl (hb hby d2_29) rfl rfl k) ?_
  show own_Go p e below _ T2 (mkF m 30 #[.val (.ref a1), .val (.int (1 : Int32)), .val (.int (0 : Int32))] [(.ref a1)])
  refine own_go (fun t k => XS.iloadN X2.here hx rfl (hb hby d2_30) rfl k) ?_
  show own_Go p e below _ T2 (mkF m 31 #[.val (.ref a1), .val (.int (1 : Int32)), .val (.int (0 : Int32))] [(.int (0 : Int32)), (.ref a1)])
  refine own_go (own_ldB X2 hx hZ e2 (Ls := #[.val (.ref a1), .val (.int (1 : Int32)), .val (.int (0 : Int32))]) (rest := []) V1 (j := (0 : Int32)) (by decide) (v := (.int x0)) rfl (hb hby d2_31)) ?_
  show own_Go p e below _ T2 (mkF m 32 #[.val (.ref a1), .val (.int (1 : Int32)), .val (.int (0 : Int32))] [(.int x0)])
  obtain ⟨T3, X3, e3, st3⟩ := getS2 X2 hx hZ hown (host := "") (Or.inl (own_w hw 9 rfl)) Via.refl e2 (S_BOM.ext O0.2) (g := (mkF m 32 #[.val (.ref a1), .val (.int (1 : Int32)), .val (.int (0 : Int32))] [(.int x0)])) rfl (hb hby d2_32)
  refine own_go st3 ?_
  show own_Go p e below _ T3 (mkF m 35 #[.val (.ref a1), .val (.int (1 : Int32)), .val (.int (0 : Int32))] [(.ref am), (.int x0)])
  refine own_go (fun t k => XS.iloadN X3.here hx rfl (hb hby d2_35) rfl k) ?_
  show own_Go p e below _ T3 (mkF m 36 #[.val (.ref a1), .val (.int (1 : Int32)), .val (.int (0 : Int32))] [(.int (0 : Int32)), (.ref am), (.int x0)])
  refine own_go (own_ldB X3 hx hZ e3 (Ls := #[.val (.ref a1), .val (.int (1 : Int32)), .val (.int (0 : Int32))]) (rest := [(.int x0)]) (V_BOM.ext O0.2) (j := (0 : Int32)) (by decide) (v := (.int (-17 : Int32))) rfl (hb hby d2_36)) ?_
  show own_Go p e below _ T3 (mkF m 37 #[.val (.ref a1), .val (.int (1 : Int32)), .val (.int (0 : Int32))] [(.int (-17 : Int32)), (.int x0)])
  by_cases hx0 : x0 = (-17 : Int32)
  · show own_Go p e below _ T3 (mkF m 37 #[.val (.ref a1), .val (.int (1 : Int32)), .val (.int (0 : Int32))] [(.int (-17 : Int32)), (.int x0)])
    refine own_go (fun t k => XS.icmpNo X3.here hx rfl (hb hby d2_37) rfl (XT.ii_ne_f hx0) k) ?_
    show own_Go p e below _ T3 (mkF m 40 #[.val (.ref a1), .val (.int (1 : Int32)), .val (.int (0 : Int32))] [])
    refine own_go (fun t k => XS.iconst X3.here hx rfl (hb hby d2_40) k) ?_
    show own_Go p e below _ T3 (mkF m 41 #[.val (.ref a1), .val (.int (1 : Int32)), .val (.int (0 : Int32))] [(.int (1 : Int32))])
    refine own_go (fun t k => XS.goto X3.here hx rfl (pc0 := 41) (pc' := 45) rfl (hb hby d2_41) (by decide) (by decide) k) ?_
    show own_Go p e below _ T3 (mkF m 45 #[.val (.ref a1), .val (.int (1 : Int32)), .val (.int (0 : Int32))] [(.int (1 : Int32))])
    refine own_go (fun t k => XS.istoreN X3.here hx rfl (hb hby d2_45) rfl (l' := #[.val (.ref a1), .val (.int (1 : Int32)), .val (.int (0 : Int32))]) rfl k) ?_
    show own_Go p e below _ T3 (mkF m 46 #[.val (.ref a1), .val (.int (1 : Int32)), .val (.int (0 : Int32))] [])
    refine own_go (fun t k => XS.iinc X3.here hx rfl (hb hby d2_46) rfl (l' := #[.val (.ref a1), .val (.int (1 : Int32)), .val (.int ((0 : Int32) + (1 : Int32)))]) rfl k) ?_
    show own_Go p e below _ T3 (mkF m 49 #[.val (.ref a1), .val (.int (1 : Int32)), .val (.int ((0 : Int32) + (1 : Int32)))] [])
    rw [show ((0 : Int32) + (1 : Int32)) = (1 : Int32) from by decide]
    show own_Go p e below _ T3 (mkF m 49 #[.val (.ref a1), .val (.int (1 : Int32)), .val (.int (1 : Int32))] [])
    refine own_go (fun t k => XS.goto X3.here hx rfl (pc0 := 49) (pc' := 17) rfl (hb hby d2_49) (by decide) (by decide) k) ?_
    show own_Go p e below _ T3 (mkF m 17 #[.val (.ref a1), .val (.int (1 : Int32)), .val (.int (1 : Int32))] [])
    refine own_go (fun t k => XS.iloadN X3.here hx rfl (hb hby d2_17) rfl k) ?_
    show own_Go p e below _ T3 (mkF m 18 #[.val (.ref a1), .val (.int (1 : Int32)), .val (.int (1 : Int32))] [(.int (1 : Int32))])
    obtain ⟨T4, X4, e4, st4⟩ := getS2 X3 hx hZ hown (host := "") (Or.inl (own_w hw 9 rfl)) Via.refl e3 (S_BOM.ext O0.2) (g := (mkF m 18 #[.val (.ref a1), .val (.int (1 : Int32)), .val (.int (1 : Int32))] [(.int (1 : Int32))])) rfl (hb hby d2_18)
    refine own_go st4 ?_
    show own_Go p e below _ T4 (mkF m 21 #[.val (.ref a1), .val (.int (1 : Int32)), .val (.int (1 : Int32))] [(.ref am), (.int (1 : Int32))])
    refine own_go (own_len X4 hx hZ e4 (Ls := #[.val (.ref a1), .val (.int (1 : Int32)), .val (.int (1 : Int32))]) (rest := [(.int (1 : Int32))]) (V_BOM.ext O0.2) (hb hby d2_21)) ?_
    show own_Go p e below _ T4 (mkF m 22 #[.val (.ref a1), .val (.int (1 : Int32)), .val (.int (1 : Int32))] [(.int (3 : Int32)), (.int (1 : Int32))])
    refine own_go (fun t k => XS.icmpNo X4.here hx rfl (hb hby d2_22) rfl (XT.ii_ge_f (by decide)) k) ?_
    show own_Go p e below _ T4 (mkF m 25 #[.val (.ref a1), .val (.int (1 : Int32)), .val (.int (1 : Int32))] [])
    refine own_go (fun t k => XS.iloadN X4.here hx rfl (hb hby d2_25) rfl k) ?_
    show own_Go p e below _ T4 (mkF m 26 #[.val (.ref a1), .val (.int (1 : Int32)), .val (.int (1 : Int32))] [(.int (1 : Int32))])
    refine own_go (fun t k => XS.ifNo X4.here hx rfl (hb hby d2_26) rfl (XT.i0_eq_f (by decide)) k) ?_
    show own_Go p e below _ T4 (mkF m 29 #[.val (.ref a1), .val (.int (1 : Int32)), .val (.int (1 : Int32))] [])
    refine own_go (fun t k => XS.aloadN X4.here hx rfl (hb hby d2_29) rfl rfl k) ?_
    show own_Go p e below _ T4 (mkF m 30 #[.val (.ref a1), .val (.int (1 : Int32)), .val (.int (1 : Int32))] [(.ref a1)])
    refine own_go (fun t k => XS.iloadN X4.here hx rfl (hb hby d2_30) rfl k) ?_
    show own_Go p e below _ T4 (mkF m 31 #[.val (.ref a1), .val (.int (1 : Int32)), .val (.int (1 : Int32))] [(.int (1 : Int32)), (.ref a1)])
    refine own_go (own_ldB X4 hx hZ e4 (Ls := #[.val (.ref a1), .val (.int (1 : Int32)), .val (.int (1 : Int32))]) (rest := []) V1 (j := (1 : Int32)) (by decide) (v := (.int x1)) rfl (hb hby d2_31)) ?_
    show own_Go p e below _ T4 (mkF m 32 #[.val (.ref a1), .val (.int (1 : Int32)), .val (.int (1 : Int32))] [(.int x1)])
    obtain ⟨T5, X5, e5, st5⟩ := getS2 X4 hx hZ hown (host := "") (Or.inl (own_w hw 9 rfl)) Via.refl e4 (S_BOM.ext O0.2) (g := (mkF m 32 #[.val (.ref a1), .val (.int (1 : Int32)), .val (.int (1 : Int32))] [(.int x1)])) rfl (hb hby d2_32)
    refine own_go st5 ?_
    show own_Go p e below _ T5 (mkF m 35 #[.val (.ref a1), .val (.int (1 : Int32)), .val (.int (1 : Int32))] [(.ref am), (.int x1)])
    refine own_go (fun t k => XS.iloadN X5.here hx rfl (hb hby d2_35) rfl k) ?_
    show own_Go p e below _ T5 (mkF m 36 #[.val (.ref a1), .val (.int (1 : Int32)), .val (.int (1 : Int32))] [(.int (1 : Int32)), (.ref am), (.int x1)])
    refine own_go (own_ldB X5 hx hZ e5 (Ls := #[.val (.ref a1), .val (.int (1 : Int32)), .val (.int (1 : Int32))]) (rest := [(.int x1)]) (V_BOM.ext O0.2) (j := (1 : Int32)) (by decide) (v := (.int (-69 : Int32))) rfl (hb hby d2_36)) ?_
    show own_Go p e below _ T5 (mkF m 37 #[.val (.ref a1), .val (.int (1 : Int32)), .val (.int (1 : Int32))] [(.int (-69 : Int32)), (.int x1)])
    by_cases hx1 : x1 = (-69 : Int32)
    · show own_Go p e below _ T5 (mkF m 37 #[.val (.ref a1), .val (.int (1 : Int32)), .val (.int (1 : Int32))] [(.int (-69 : Int32)), (.int x1)])
      refine own_go (fun t k => XS.icmpNo X5.here hx rfl (hb hby d2_37) rfl (XT.ii_ne_f hx1) k) ?_
      show own_Go p e below _ T5 (mkF m 40 #[.val (.ref a1), .val (.int (1 : Int32)), .val (.int (1 : Int32))] [])
      refine own_go (fun t k => XS.iconst X5.here hx rfl (hb hby d2_40) k) ?_
      show own_Go p e below _ T5 (mkF m 41 #[.val (.ref a1), .val (.int (1 : Int32)), .val (.int (1 : Int32))] [(.int (1 : Int32))])
      refine own_go (fun t k => XS.goto X5.here hx rfl (pc0 := 41) (pc' := 45) rfl (hb hby d2_41) (by decide) (by decide) k) ?_
      show own_Go p e below _ T5 (mkF m 45 #[.val (.ref a1), .val (.int (1 : Int32)), .val (.int (1 : Int32))] [(.int (1 : Int32))])
      refine own_go (fun t k => XS.istoreN X5.here hx rfl (hb hby d2_45) rfl (l' := #[.val (.ref a1), .val (.int (1 : Int32)), .val (.int (1 : Int32))]) rfl k) ?_
      show own_Go p e below _ T5 (mkF m 46 #[.val (.ref a1), .val (.int (1 : Int32)), .val (.int (1 : Int32))] [])
      refine own_go (fun t k => XS.iinc X5.here hx rfl (hb hby d2_46) rfl (l' := #[.val (.ref a1), .val (.int (1 : Int32)), .val (.int ((1 : Int32) + (1 : Int32)))]) rfl k) ?_
      show own_Go p e below _ T5 (mkF m 49 #[.val (.ref a1), .val (.int (1 : Int32)), .val (.int ((1 : Int32) + (1 : Int32)))] [])
      rw [show ((1 : Int32) + (1 : Int32)) = (2 : Int32) from by decide]
      show own_Go p e below _ T5 (mkF m 49 #[.val (.ref a1), .val (.int (1 : Int32)), .val (.int (2 : Int32))] [])
      refine own_go (fun t k => XS.goto X5.here hx rfl (pc0 := 49) (pc' := 17) rfl (hb hby d2_49) (by decide) (by decide) k) ?_
      show own_Go p e below _ T5 (mkF m 17 #[.val (.ref a1), .val (.int (1 : Int32)), .val (.int (2 : Int32))] [])
      refine own_go (fun t k => XS.iloadN X5.here hx rfl (hb hby d2_17) rfl k) ?_
      show own_Go p e below _ T5 (mkF m 18 #[.val (.ref a1), .val (.int (1 : Int32)), .val (.int (2 : Int32))] [(.int (2 : Int32))])
      obtain ⟨T6, X6, e6, st6⟩ := getS2 X5 hx hZ hown (host := "") (Or.inl (own_w hw 9 rfl)) Via.refl e5 (S_BOM.ext O0.2) (g := (mkF m 18 #[.val (.ref a1), .val (.int (1 : Int32)), .val (.int (2 : Int32))] [(.int (2 : Int32))])) rfl (hb hby d2_18)
      refine own_go st6 ?_
      show own_Go p e below _ T6 (mkF m 21 #[.val (.ref a1), .val (.int (1 : Int32)), .val (.int (2 : Int32))] [(.ref am), (.int (2 : Int32))])
      refine own_go (own_len X6 hx hZ e6 (Ls := #[.val (.ref a1), .val (.int (1 : Int32)), .val (.int (2 : Int32))]) (rest := [(.int (2 : Int32))]) (V_BOM.ext O0.2) (hb hby d2_21)) ?_
      show own_Go p e below _ T6 (mkF m 22 #[.val (.ref a1), .val (.int (1 : Int32)), .val (.int (2 : Int32))] [(.int (3 : Int32)), (.int (2 : Int32))])
      refine own_go (fun t k => XS.icmpNo X6.here hx rfl (hb hby d2_22) rfl (XT.ii_ge_f (by decide)) k) ?_
      show own_Go p e below _ T6 (mkF m 25 #[.val (.ref a1), .val (.int (1 : Int32)), .val (.int (2 : Int32))] [])
      refine own_go (fun t k => XS.iloadN X6.here hx rfl (hb hby d2_25) rfl k) ?_
      show own_Go p e below _ T6 (mkF m 26 #[.val (.ref a1), .val (.int (1 : Int32)), .val (.int (2 : Int32))] [(.int (1 : Int32))])
      refine own_go (fun t k => XS.ifNo X6.here hx rfl (hb hby d2_26) rfl (XT.i0_eq_f (by decide)) k) ?_
      show own_Go p e below _ T6 (mkF m 29 #[.val (.ref a1), .val (.int (1 : Int32)), .val (.int (2 : Int32))] [])
      refine own_go (fun t k => XS.aloadN X6.here hx rfl (hb hby d2_29) rfl rfl k) ?_
      show own_Go p e below _ T6 (mkF m 30 #[.val (.ref a1), .val (.int (1 : Int32)), .val (.int (2 : Int32))] [(.ref a1)])
      refine own_go (fun t k => XS.iloadN X6.here hx rfl (hb hby d2_30) rfl k) ?_
      show own_Go p e below _ T6 (mkF m 31 #[.val (.ref a1), .val (.int (1 : Int32)), .val (.int (2 : Int32))] [(.int (2 : Int32)), (.ref a1)])
      refine own_go (own_ldB X6 hx hZ e6 (Ls := #[.val (.ref a1), .val (.int (1 : Int32)), .val (.int (2 : Int32))]) (rest := []) V1 (j := (2 : Int32)) (by decide) (v := (.int x2)) rfl (hb hby d2_31)) ?_
      show own_Go p e below _ T6 (mkF m 32 #[.val (.ref a1), .val (.int (1 : Int32)), .val (.int (2 : Int32))] [(.int x2)])
      obtain ⟨T7, X7, e7, st7⟩ := getS2 X6 hx hZ hown (host := "") (Or.inl (own_w hw 9 rfl)) Via.refl e6 (S_BOM.ext O0.2) (g := (mkF m 32 #[.val (.ref a1), .val (.int (1 : Int32)), .val (.int (2 : Int32))] [(.int x2)])) rfl (hb hby d2_32)
      refine own_go st7 ?_
      show own_Go p e below _ T7 (mkF m 35 #[.val (.ref a1), .val (.int (1 : Int32)), .val (.int (2 : Int32))] [(.ref am), (.int x2)])
      refine own_go (fun t k => XS.iloadN X7.here hx rfl (hb hby d2_35) rfl k) ?_
      show own_Go p e below _ T7 (mkF m 36 #[.val (.ref a1), .val (.int (1 : Int32)), .val (.int (2 : Int32))] [(.int (2 : Int32)), (.ref am), (.int x2)])
      refine own_go (own_ldB X7 hx hZ e7 (Ls := #[.val (.ref a1), .val (.int (1 : Int32)), .val (.int (2 : Int32))]) (rest := [(.int x2)]) (V_BOM.ext O0.2) (j := (2 : Int32)) (by decide) (v := (.int (-65 : Int32))) rfl (hb hby d2_36)) ?_
      show own_Go p e below _ T7 (mkF m 37 #[.val (.ref a1), .val (.int (1 : Int32)), .val (.int (2 : Int32))] [(.int (-65 : Int32)), (.int x2)])
      by_cases hx2 : x2 = (-65 : Int32)
      · show own_Go p e below _ T7 (mkF m 37 #[.val (.ref a1), .val (.int (1 : Int32)), .val (.int (2 : Int32))] [(.int (-65 : Int32)), (.int x2)])
        refine own_go (fun t k => XS.icmpNo X7.here hx rfl (hb hby d2_37) rfl (XT.ii_ne_f hx2) k) ?_
        show own_Go p e below _ T7 (mkF m 40 #[.val (.ref a1), .val (.int (1 : Int32)), .val (.int (2 : Int32))] [])
        refine own_go (fun t k => XS.iconst X7.here hx rfl (hb hby d2_40) k) ?_
        show own_Go p e below _ T7 (mkF m 41 #[.val (.ref a1), .val (.int (1 : Int32)), .val (.int (2 : Int32))] [(.int (1 : Int32))])
        refine own_go (fun t k => XS.goto X7.here hx rfl (pc0 := 41) (pc' := 45) rfl (hb hby d2_41) (by decide) (by decide) k) ?_
        show own_Go p e below _ T7 (mkF m 45 #[.val (.ref a1), .val (.int (1 : Int32)), .val (.int (2 : Int32))] [(.int (1 : Int32))])
        refine own_go (fun t k => XS.istoreN X7.here hx rfl (hb hby d2_45) rfl (l' := #[.val (.ref a1), .val (.int (1 : Int32)), .val (.int (2 : Int32))]) rfl k) ?_
        show own_Go p e below _ T7 (mkF m 46 #[.val (.ref a1), .val (.int (1 : Int32)), .val (.int (2 : Int32))] [])
        refine own_go (fun t k => XS.iinc X7.here hx rfl (hb hby d2_46) rfl (l' := #[.val (.ref a1), .val (.int (1 : Int32)), .val (.int ((2 : Int32) + (1 : Int32)))]) rfl k) ?_
        show own_Go p e below _ T7 (mkF m 49 #[.val (.ref a1), .val (.int (1 : Int32)), .val (.int ((2 : Int32) + (1 : Int32)))] [])
        rw [show ((2 : Int32) + (1 : Int32)) = (3 : Int32) from by decide]
        show own_Go p e below _ T7 (mkF m 49 #[.val (.ref a1), .val (.int (1 : Int32)), .val (.int (3 : Int32))] [])
        refine own_go (fun t k => XS.goto X7.here hx rfl (pc0 := 49) (pc' := 17) rfl (hb hby d2_49) (by decide) (by decide) k) ?_
        show own_Go p e below _ T7 (mkF m 17 #[.val (.ref a1), .val (.int (1 : Int32)), .val (.int (3 : Int32))] [])
        refine own_go (fun t k => XS.iloadN X7.here hx rfl (hb hby d2_17) rfl k) ?_
        show own_Go p e below _ T7 (mkF m 18 #[.val (.ref a1), .val (.int (1 : Int32)), .val (.int (3 : Int32))] [(.int (3 : Int32))])
        obtain ⟨T8, X8, e8, st8⟩ := getS2 X7 hx hZ hown (host := "") (Or.inl (own_w hw 9 rfl)) Via.refl e7 (S_BOM.ext O0.2) (g := (mkF m 18 #[.val (.ref a1), .val (.int (1 : Int32)), .val (.int (3 : Int32))] [(.int (3 : Int32))])) rfl (hb hby d2_18)
        refine own_go st8 ?_
        show own_Go p e below _ T8 (mkF m 21 #[.val (.ref a1), .val (.int (1 : Int32)), .val (.int (3 : Int32))] [(.ref am), (.int (3 : Int32))])
        refine own_go (own_len X8 hx hZ e8 (Ls := #[.val (.ref a1), .val (.int (1 : Int32)), .val (.int (3 : Int32))]) (rest := [(.int (3 : Int32))]) (V_BOM.ext O0.2) (hb hby d2_21)) ?_
        show own_Go p e below _ T8 (mkF m 22 #[.val (.ref a1), .val (.int (1 : Int32)), .val (.int (3 : Int32))] [(.int (3 : Int32)), (.int (3 : Int32))])
        refine own_go (fun t k => XS.icmpYes X8.here hx rfl (pc0 := 22) (pc' := 52) rfl (hb hby d2_22) rfl (XT.ii_ge_t (by decide)) (by decide) (by decide) k) ?_
        show own_Go p e below _ T8 (mkF m 52 #[.val (.ref a1), .val (.int (1 : Int32)), .val (.int (3 : Int32))] [])
        refine own_go (fun t k => XS.iloadN X8.here hx rfl (hb hby d2_52) rfl k) ?_
        show own_Go p e below _ T8 (mkF m 53 #[.val (.ref a1), .val (.int (1 : Int32)), .val (.int (3 : Int32))] [(.int (1 : Int32))])
        refine own_go (fun t k => XS.ifNo X8.here hx rfl (hb hby d2_53) rfl (XT.i0_eq_f (by decide)) k) ?_
        show own_Go p e below _ T8 (mkF m 56 #[.val (.ref a1), .val (.int (1 : Int32)), .val (.int (3 : Int32))] [])
        obtain ⟨T9, X9, e9, st9⟩ := getS2 X8 hx hZ hown (host := "") (Or.inl (own_w hw 9 rfl)) Via.refl e8 (S_BOM.ext O0.2) (g := (mkF m 56 #[.val (.ref a1), .val (.int (1 : Int32)), .val (.int (3 : Int32))] [])) rfl (hb hby d2_56)
        refine own_go st9 ?_
        show own_Go p e below _ T9 (mkF m 59 #[.val (.ref a1), .val (.int (1 : Int32)), .val (.int (3 : Int32))] [(.ref am)])
        refine own_go (own_len X9 hx hZ e9 (Ls := #[.val (.ref a1), .val (.int (1 : Int32)), .val (.int (3 : Int32))]) (rest := []) (V_BOM.ext O0.2) (hb hby d2_59)) ?_
        show own_Go p e below _ T9 (mkF m 60 #[.val (.ref a1), .val (.int (1 : Int32)), .val (.int (3 : Int32))] [(.int (3 : Int32))])
        refine own_go (fun t k => XS.goto X9.here hx rfl (pc0 := 60) (pc' := 64) rfl (hb hby d2_60) (by decide) (by decide) k) ?_
        show own_Go p e below _ T9 (mkF m 64 #[.val (.ref a1), .val (.int (1 : Int32)), .val (.int (3 : Int32))] [(.int (3 : Int32))])
        refine own_retI X9 hx hlk hret (hb hby d2_64) (by decide) (by decide) ?_
        exact ⟨⟨3, rfl, fun _ => rfl, fun q => absurd ⟨hx0, hx1, hx2⟩ q⟩, N0, e9⟩
      · show own_Go p e below _ T7 (mkF m 37 #[.val (.ref a1), .val (.int (1 : Int32)), .val (.int (2 : Int32))] [(.int (-65 : Int32)), (.int x2)])
        refine own_go (fun t k => XS.icmpYes X7.here hx rfl (pc0 := 37) (pc' := 44) rfl (hb hby d2_37) rfl (XT.ii_ne_t hx2) (by decide) (by decide) k) ?_
        show own_Go p e below _ T7 (mkF m 44 #[.val (.ref a1), .val (.int (1 : Int32)), .val (.int (2 : Int32))] [])
        refine own_go (fun t k => XS.iconst X7.here hx rfl (hb hby d2_44) k) ?_
        show own_Go p e below _ T7 (mkF m 45 #[.val (.ref a1), .val (.int (1 : Int32)), .val (.int (2 : Int32))] [(.int (0 : Int32))])
        refine own_go (fun t k => XS.istoreN X7.here hx rfl (hb hby d2_45) rfl (l' := #[.val (.ref a1), .val (.int (0 : Int32)), .val (.int (2 : Int32))]) rfl k) ?_
        show own_Go p e below _ T7 (mkF m 46 #[.val (.ref a1), .val (.int (0 : Int32)), .val (.int (2 : Int32))] [])
        refine own_go (fun t k => XS.iinc X7.here hx rfl (hb hby d2_46) rfl (l' := #[.val (.ref a1), .val (.int (0 : Int32)), .val (.int ((2 : Int32) + (1 : Int32)))]) rfl k) ?_
        show own_Go p e below _ T7 (mkF m 49 #[.val (.ref a1), .val (.int (0 : Int32)), .val (.int ((2 : Int32) + (1 : Int32)))] [])
        rw [show ((2 : Int32) + (1 : Int32)) = (3 : Int32) from by decide]
        show own_Go p e below _ T7 (mkF m 49 #[.val (.ref a1), .val (.int (0 : Int32)), .val (.int (3 : Int32))] [])
        refine own_go (fun t k => XS.goto X7.here hx rfl (pc0 := 49) (pc' := 17) rfl (hb hby d2_49) (by decide) (by decide) k) ?_
        show own_Go p e below _ T7 (mkF m 17 #[.val (.ref a1), .val (.int (0 : Int32)), .val (.int (3 : Int32))] [])
        refine own_go (fun t k => XS.iloadN X7.here hx rfl (hb hby d2_17) rfl k) ?_
        show own_Go p e below _ T7 (mkF m 18 #[.val (.ref a1), .val (.int (0 : Int32)), .val (.int (3 : Int32))] [(.int (3 : Int32))])
        obtain ⟨T10, X10, e10, st10⟩ := getS2 X7 hx hZ hown (host := "") (Or.inl (own_w hw 9 rfl)) Via.refl e7 (S_BOM.ext O0.2) (g := (mkF m 18 #[.val (.ref a1), .val (.int (0 : Int32)), .val (.int (3 : Int32))] [(.int (3 : Int32))])) rfl (hb hby d2_18)
        refine own_go st10 ?_
        show own_Go p e below _ T10 (mkF m 21 #[.val (.ref a1), .val (.int (0 : Int32)), .val (.int (3 : Int32))] [(.ref am), (.int (3 : Int32))])
        refine own_go (own_len X10 hx hZ e10 (Ls := #[.val (.ref a1), .val (.int (0 : Int32)), .val (.int (3 : Int32))]) (rest := [(.int (3 : Int32))]) (V_BOM.ext O0.2) (hb hby d2_21)) ?_
        show own_Go p e below _ T10 (mkF m 22 #[.val (.ref a1), .val (.int (0 : Int32)), .val (.int (3 : Int32))] [(.int (3 : Int32)), (.int (3 : Int32))])
        refine own_go (fun t k => XS.icmpYes X10.here hx rfl (pc0 := 22) (pc' := 52) rfl (hb hby d2_22) rfl (XT.ii_ge_t (by decide)) (by decide) (by decide) k) ?_
        show own_Go p e below _ T10 (mkF m 52 #[.val (.ref a1), .val (.int (0 : Int32)), .val (.int (3 : Int32))] [])
        refine own_go (fun t k => XS.iloadN X10.here hx rfl (hb hby d2_52) rfl k) ?_
        show own_Go p e below _ T10 (mkF m 53 #[.val (.ref a1), .val (.int (0 : Int32)), .val (.int (3 : Int32))] [(.int (0 : Int32))])
        refine own_go (fun t k => XS.ifYes X10.here hx rfl (pc0 := 53) (pc' := 63) rfl (hb hby d2_53) rfl (XT.i0_eq_t (by decide)) (by decide) (by decide) k) ?_
        show own_Go p e below _ T10 (mkF m 63 #[.val (.ref a1), .val (.int (0 : Int32)), .val (.int (3 : Int32))] [])
        refine own_go (fun t k => XS.iconst X10.here hx rfl (hb hby d2_63) k) ?_
        show own_Go p e below _ T10 (mkF m 64 #[.val (.ref a1), .val (.int (0 : Int32)), .val (.int (3 : Int32))] [(.int (0 : Int32))])
        refine own_retI X10 hx hlk hret (hb hby d2_64) (by decide) (by decide) ?_
        exact ⟨⟨0, rfl, fun q => absurd q.2.2 hx2, fun _ => rfl⟩, N0, e10⟩
    · show own_Go p e below _ T5 (mkF m 37 #[.val (.ref a1), .val (.int (1 : Int32)), .val (.int (1 : Int32))] [(.int (-69 : Int32)), (.int x1)])
      refine own_go (fun t k => XS.icmpYes X5.here hx rfl (pc0 := 37) (pc' := 44) rfl (hb hby d2_37) rfl (XT.ii_ne_t hx1) (by decide) (by decide) k) ?_
      show own_Go p e below _ T5 (mkF m 44 #[.val (.ref a1), .val (.int (1 : Int32)), .val (.int (1 : Int32))] [])
      refine own_go (fun t k => XS.iconst X5.here hx rfl (hb hby d2_44) k) ?_
      show own_Go p e below _ T5 (mkF m 45 #[.val (.ref a1), .val (.int (1 : Int32)), .val (.int (1 : Int32))] [(.int (0 : Int32))])
      refine own_go (fun t k => XS.istoreN X5.here hx rfl (hb hby d2_45) rfl (l' := #[.val (.ref a1), .val (.int (0 : Int32)), .val (.int (1 : Int32))]) rfl k) ?_
      show own_Go p e below _ T5 (mkF m 46 #[.val (.ref a1), .val (.int (0 : Int32)), .val (.int (1 : Int32))] [])
      refine own_go (fun t k => XS.iinc X5.here hx rfl (hb hby d2_46) rfl (l' := #[.val (.ref a1), .val (.int (0 : Int32)), .val (.int ((1 : Int32) + (1 : Int32)))]) rfl k) ?_
      show own_Go p e below _ T5 (mkF m 49 #[.val (.ref a1), .val (.int (0 : Int32)), .val (.int ((1 : Int32) + (1 : Int32)))] [])
      rw [show ((1 : Int32) + (1 : Int32)) = (2 : Int32) from by decide]
      show own_Go p e below _ T5 (mkF m 49 #[.val (.ref a1), .val (.int (0 : Int32)), .val (.int (2 : Int32))] [])
      refine own_go (fun t k => XS.goto X5.here hx rfl (pc0 := 49) (pc' := 17) rfl (hb hby d2_49) (by decide) (by decide) k) ?_
      show own_Go p e below _ T5 (mkF m 17 #[.val (.ref a1), .val (.int (0 : Int32)), .val (.int (2 : Int32))] [])
      refine own_go (fun t k => XS.iloadN X5.here hx rfl (hb hby d2_17) rfl k) ?_
      show own_Go p e below _ T5 (mkF m 18 #[.val (.ref a1), .val (.int (0 : Int32)), .val (.int (2 : Int32))] [(.int (2 : Int32))])
      obtain ⟨T11, X11, e11, st11⟩ := getS2 X5 hx hZ hown (host := "") (Or.inl (own_w hw 9 rfl)) Via.refl e5 (S_BOM.ext O0.2) (g := (mkF m 18 #[.val (.ref a1), .val (.int (0 : Int32)), .val (.int (2 : Int32))] [(.int (2 : Int32))])) rfl (hb hby d2_18)
      refine own_go st11 ?_
      show own_Go p e below _ T11 (mkF m 21 #[.val (.ref a1), .val (.int (0 : Int32)), .val (.int (2 : Int32))] [(.ref am), (.int (2 : Int32))])
      refine own_go (own_len X11 hx hZ e11 (Ls := #[.val (.ref a1), .val (.int (0 : Int32)), .val (.int (2 : Int32))]) (rest := [(.int (2 : Int32))]) (V_BOM.ext O0.2) (hb hby d2_21)) ?_
      show own_Go p e below _ T11 (mkF m 22 #[.val (.ref a1), .val (.int (0 : Int32)), .val (.int (2 : Int32))] [(.int (3 : Int32)), (.int (2 : Int32))])
      refine own_go (fun t k => XS.icmpNo X11.here hx rfl (hb hby d2_22) rfl (XT.ii_ge_f (by decide)) k) ?_
      show own_Go p e below _ T11 (mkF m 25 #[.val (.ref a1), .val (.int (0 : Int32)), .val (.int (2 : Int32))] [])
      refine own_go (fun t k => XS.iloadN X11.here hx rfl (hb hby d2_25) rfl k) ?_
      show own_Go p e below _ T11 (mkF m 26 #[.val (.ref a1), .val (.int (0 : Int32)), .val (.int (2 : Int32))] [(.int (0 : Int32))])
      refine own_go (fun t k => XS.ifYes X11.here hx rfl (pc0 := 26) (pc' := 52) rfl (hb hby d2_26) rfl (XT.i0_eq_t (by decide)) (by decide) (by decide) k) ?_
      show own_Go p e below _ T11 (mkF m 52 #[.val (.ref a1), .val (.int (0 : Int32)), .val (.int (2 : Int32))] [])
      refine own_go (fun t k => XS.iloadN X11.here hx rfl (hb hby d2_52) rfl k) ?_
      show own_Go p e below _ T11 (mkF m 53 #[.val (.ref a1), .val (.int (0 : Int32)), .val (.int (2 : Int32))] [(.int (0 : Int32))])
      refine own_go (fun t k => XS.ifYes X11.here hx rfl (pc0 := 53) (pc' := 63) rfl (hb hby d2_53) rfl (XT.i0_eq_t (by decide)) (by decide) (by decide) k) ?_
      show own_Go p e below _ T11 (mkF m 63 #[.val (.ref a1), .val (.int (0 : Int32)), .val (.int (2 : Int32))] [])
      refine own_go (fun t k => XS.iconst X11.here hx rfl (hb hby d2_63) k) ?_
      show own_Go p e below _ T11 (mkF m 64 #[.val (.ref a1), .val (.int (0 : Int32)), .val (.int (2 : Int32))] [(.int (0 : Int32))])
      refine own_retI X11 hx hlk hret (hb hby d2_64) (by decide) (by decide) ?_
      exact ⟨⟨0, rfl, fun q => absurd q.2.1 hx1, fun _ => rfl⟩, N0, e11⟩
  · show own_Go p e below _ T3 (mkF m 37 #[.val (.ref a1), .val (.int (1 : Int32)), .val (.int (0 : Int32))] [(.int (-17 : Int32)), (.int x0)])
    refine own_go (fun t k => XS.icmpYes X3.here hx rfl (pc0 := 37) (pc' := 44) rfl (hb hby d2_37) rfl (XT.ii_ne_t hx0) (by decide) (by decide) k) ?_
    show own_Go p e below _ T3 (mkF m 44 #[.val (.ref a1), .val (.int (1 : Int32)), .val (.int (0 : Int32))] [])
    refine own_go (fun t k => XS.iconst X3.here hx rfl (hb hby d2_44) k) ?_
    show own_Go p e below _ T3 (mkF m 45 #[.val (.ref a1), .val (.int (1 : Int32)), .val (.int (0 : Int32))] [(.int (0 : Int32))])
    refine own_go (fun t k => XS.istoreN X3.here hx rfl (hb hby d2_45) rfl (l' := #[.val (.ref a1), .val (.int (0 : Int32)), .val (.int (0 : Int32))]) rfl k) ?_
    show own_Go p e below _ T3 (mkF m 46 #[.val (.ref a1), .val (.int (0 : Int32)), .val (.int (0 : Int32))] [])
    refine own_go (fun t k => XS.iinc X3.here hx rfl (hb hby d2_46) rfl (l' := #[.val (.ref a1), .val (.int (0 : Int32)), .val (.int ((0 : Int32) + (1 : Int32)))]) rfl k) ?_
    show own_Go p e below _ T3 (mkF m 49 #[.val (.ref a1), .val (.int (0 : Int32)), .val (.int ((0 : Int32) + (1 : Int32)))] [])
    rw [show ((0 : Int32) + (1 : Int32)) = (1 : Int32) from by decide]
    show own_Go p e below _ T3 (mkF m 49 #[.val (.ref a1), .val (.int (0 : Int32)), .val (.int (1 : Int32))] [])
    refine own_go (fun t k => XS.goto X3.here hx rfl (pc0 := 49) (pc' := 17) rfl (hb hby d2_49) (by decide) (by decide) k) ?_
    show own_Go p e below _ T3 (mkF m 17 #[.val (.ref a1), .val (.int (0 : Int32)), .val (.int (1 : Int32))] [])
    refine own_go (fun t k => XS.iloadN X3.here hx rfl (hb hby d2_17) rfl k) ?_
    show own_Go p e below _ T3 (mkF m 18 #[.val (.ref a1), .val (.int (0 : Int32)), .val (.int (1 : Int32))] [(.int (1 : Int32))])
    obtain ⟨T12, X12, e12, st12⟩ := getS2 X3 hx hZ hown (host := "") (Or.inl (own_w hw 9 rfl)) Via.refl e3 (S_BOM.ext O0.2) (g := (mkF m 18 #[.val (.ref a1), .val (.int (0 : Int32)), .val (.int (1 : Int32))] [(.int (1 : Int32))])) rfl (hb hby d2_18)
    refine own_go st12 ?_
    show own_Go p e below _ T12 (mkF m 21 #[.val (.ref a1), .val (.int (0 : Int32)), .val (.int (1 : Int32))] [(.ref am), (.int (1 : Int32))])
    refine own_go (own_len X12 hx hZ e12 (Ls := #[.val (.ref a1), .val (.int (0 : Int32)), .val (.int (1 : Int32))]) (rest := [(.int (1 : Int32))]) (V_BOM.ext O0.2) (hb hby d2_21)) ?_
    show own_Go p e below _ T12 (mkF m 22 #[.val (.ref a1), .val (.int (0 : Int32)), .val (.int (1 : Int32))] [(.int (3 : Int32)), (.int (1 : Int32))])
    refine own_go (fun t k => XS.icmpNo X12.here hx rfl (hb hby d2_22) rfl (XT.ii_ge_f (by decide)) k) ?_
    show own_Go p e below _ T12 (mkF m 25 #[.val (.ref a1), .val (.int (0 : Int32)), .val (.int (1 : Int32))] [])
    refine own_go (fun t k => XS.iloadN X12.here hx rfl (hb hby d2_25) rfl k) ?_
    show own_Go p e below _ T12 (mkF m 26 #[.val (.ref a1), .val (.int (0 : Int32)), .val (.int (1 : Int32))] [(.int (0 : Int32))])
    refine own_go (fun t k => XS.ifYes X12.here hx rfl (pc0 := 26) (pc' := 52) rfl (hb hby d2_26) rfl (XT.i0_eq_t (by decide)) (by decide) (by decide) k) ?_
    show own_Go p e below _ T12 (mkF m 52 #[.val (.ref a1), .val (.int (0 : Int32)), .val (.int (1 : Int32))] [])
    refine own_go (fun t k => XS.iloadN X12.here hx rfl (hb hby d2_52) rfl k) ?_
    show own_Go p e below _ T12 (mkF m 53 #[.val (.ref a1), .val (.int (0 : Int32)), .val (.int (1 : Int32))] [(.int (0 : Int32))])
    refine own_go (fun t k => XS.ifYes X12.here hx rfl (pc0 := 53) (pc' := 63) rfl (hb hby d2_53) rfl (XT.i0_eq_t (by decide)) (by decide) (by decide) k) ?_
    show own_Go p e below _ T12 (mkF m 63 #[.val (.ref a1), .val (.int (0 : Int32)), .val (.int (1 : Int32))] [])
    refine own_go (fun t k => XS.iconst X12.here hx rfl (hb hby d2_63) k) ?_
    show own_Go p e below _ T12 (mkF m 64 #[.val (.ref a1), .val (.int (0 : Int32)), .val (.int (1 : Int32))] [(.int (0 : Int32))])
    refine own_retI X12 hx hlk hret (hb hby d2_64) (by decide) (by decide) ?_
    exact ⟨⟨0, rfl, fun q => absurd q.1 hx0, fun _ => rfl⟩, N0, e12⟩
set_option maxRecDepth 65536 in
set_option maxHeartbeats 40000000 in
theorem rm0 (l : Launch) (Z : State) (a0 : Array Value) (hw : ∀ d ∈ tables_1, d.before a0 Z = true) (ws : List Jvm.Cond) (p1 p2 : Int32) (am : Addr) (km : ClassId) (h0 : Heap) (n0 : Nat) (Z0 : n0 ≤ h0.size) (O0 : Old Z n0 h0) (S_BOM : Sta Z Z.heap "com/example/tallygate/tallygate/codec/Utf8Text" "BYTE_ORDER_MARK" "[B" (.ref am)) (V_BOM : Arv Z Z.heap am km .byte (3 : Int32) [(.int (-17 : Int32)), (.int (-69 : Int32)), (.int (-65 : Int32))] (.int 0)) :
    own_Met l Z x code maxLocals ret ws room_1 #[(.int p1), (.int p2)] h0 (fun v h L => v = some (.int 1) ∧ Fr n0 L) := by
  refine own_body (by first | exact plainFor_of_name pn_com_example_tallygate_tallygate_codec_Utf8TextAfterByteOrderMarkPinLaw | decide +kernel) ?_
  intro p e s m below meth c T0 X0 hx hby hml hret hlk hZ hown hnm e0
  have hown : s.vm.findClass "com/example/tallygate/tallygate/codec/Utf8TextAfterByteOrderMarkPinLaw" = some m.cls := hown
  have hnm : meth.name = "law" := hnm
  have N0 := Fr.nil n0
  rw [ef_0 m p1 p2]
  show own_Go p e below _ T0 (mkF m 0 #[.val (.int p1), .val (.int p2), .unset, .unset, .unset, .unset, .unset, .unset, .unset, .unset] [])
  refine own_go (fun t k => XS.iloadN X0.here hx rfl (hb hby at_0) rfl k) ?_
  show own_Go p e below _ T0 (mkF m 1 #[.val (.int p1), .val (.int p2), .unset, .unset, .unset, .unset, .unset, .unset, .unset, .unset] [(.int p1)])
  refine own_go (fun t k => XS.bipush X0.here hx rfl (hb hby at_1) k) ?_
  show own_Go p e below _ T0 (mkF m 3 #[.val (.int p1), .val (.int p2), .unset, .unset, .unset, .unset, .unset, .unset, .unset, .unset] [(.int (7 : Int32)), (.int p1)])
  refine own_go (fun t k => XS.iand X0.here hx rfl (hb hby at_3) rfl k) ?_
  show own_Go p e below _ T0 (mkF m 4 #[.val (.int p1), .val (.int p2), .unset, .unset, .unset, .unset, .unset, .unset, .unset, .unset] [(.int (p1 &&& (7 : Int32)))])
  refine own_go (fun t k => XS.iconst X0.here hx rfl (hb hby at_4) k) ?_
  show own_Go p e below _ T0 (mkF m 5 #[.val (.int p1), .val (.int p2), .unset, .unset, .unset, .unset, .unset, .unset, .unset, .unset] [(.int (5 : Int32)), (.int (p1 &&& (7 : Int32)))])
  refine own_go (fun t k => iremM X0 hx rfl (hb hby at_5) rfl (by decide) k) ?_
  show own_Go p e below _ T0 (mkF m 6 #[.val (.int p1), .val (.int p2), .unset, .unset, .unset, .unset, .unset, .unset, .unset, .unset] [(.int ((p1 &&& (7 : Int32)) % (5 : Int32)))])
  have hln := own_rem7 p1
  generalize ((p1 &&& (7 : Int32)) % (5 : Int32)) = ln at hln ⊢
  show own_Go p e below _ T0 (mkF m 6 #[.val (.int p1), .val (.int p2), .unset, .unset, .unset, .unset, .unset, .unset, .unset, .unset] [(.int ln)])
  refine own_go (fun t k => XS.istoreN X0.here hx rfl (hb hby at_6) rfl (l' := #[.val (.int p1), .val (.int p2), .val (.int ln), .unset, .unset, .unset, .unset, .unset, .unset, .unset]) rfl k) ?_
  show own_Go p e below _ T0 (mkF m 7 #[.val (.int p1), .val (.int p2), .val (.int ln), .unset, .unset, .unset, .unset, .unset, .unset, .unset] [])
  refine own_go (fun t k => XS.iloadN X0.here hx rfl (hb hby at_7) rfl k) ?_
  show own_Go p e below _ T0 (mkF m 8 #[.val (.int p1), .val (.int p2), .val (.int ln), .unset, .unset, .unset, .unset, .unset, .unset, .unset] [(.int p1)])
  refine own_go (fun t k => XS.bipush X0.here hx rfl (hb hby at_8) k) ?_
  show own_Go p e below _ T0 (mkF m 10 #[.val (.int p1), .val (.int p2), .val (.int ln), .unset, .unset, .unset, .unset, .unset, .unset, .unset] [(.int (8 : Int32)), (.int p1)])
  refine own_go (fun t k => XS.iand X0.here hx rfl (hb hby at_10) rfl k) ?_
  show own_Go p e below _ T0 (mkF m 11 #[.val (.int p1), .val (.int p2), .val (.int ln), .unset, .unset, .unset, .unset, .unset, .unset, .unset] [(.int (p1 &&& (8 : Int32)))])
  have jn11 : ∀ (b0 : Int32), (((p1 &&& (8 : Int32)) = 0) → b0 = p2.toInt8.toInt32) → (¬ ((p1 &&& (8 : Int32)) = 0) → b0 = (-17 : Int32)) → own_Go p e below (own_K (fun v h L => v = some (.int 1) ∧ Fr n0 L) s room_1.cells room_1.slots) T0 (mkF m 21 #[.val (.int p1), .val (.int p2), .val (.int ln), .unset, .unset, .unset, .unset, .unset, .unset, .unset] [(.int b0)]) := by
    intro b0 b0_t b0_f
    have B0 : b0.toInt8.toInt32 = b0 := own_jb b0_t b0_f (own_b8 _) (by decide)
    refine own_go (fun t k => XS.istoreN X0.here hx rfl (hb hby at_21) rfl (l' := #[.val (.int p1), .val (.int p2), .val (.int ln), .val (.int b0), .unset, .unset, .unset, .unset, .unset, .unset]) rfl k) ?_
    show own_Go p e below _ T0 (mkF m 22 #[.val (.int p1), .val (.int p2), .val (.int ln), .val (.int b0), .unset, .unset, .unset, .unset, .unset, .unset] [])
    refine own_go (fun t k => XS.iloadN X0.here hx rfl (hb hby at_22) rfl k) ?_
    show own_Go p e below _ T0 (mkF m 23 #[.val (.int p1), .val (.int p2), .val (.int ln), .val (.int b0), .unset, .unset, .unset, .unset, .unset, .unset] [(.int p1)])
    refine own_go (fun t k => XS.bipush X0.here hx rfl (hb hby at_23) k) ?_
    show own_Go p e below _ T0 (mkF m 25 #[.val (.int p1), .val (.int p2), .val (.int ln), .val (.int b0), .unset, .unset, .unset, .unset, .unset, .unset] [(.int (16 : Int32)), (.int p1)])
    refine own_go (fun t k => XS.iand X0.here hx rfl (hb hby at_25) rfl k) ?_
    show own_Go p e below _ T0 (mkF m 26 #[.val (.int p1), .val (.int p2), .val (.int ln), .val (.int b0), .unset, .unset, .unset, .unset, .unset, .unset] [(.int (p1 &&& (16 : Int32)))])
    have jn26 : ∀ (b1 : Int32), (((p1 &&& (16 : Int32)) = 0) → b1 = (p2 >>> ((8 : Int32) &&& 31)).toInt8.toInt32) → (¬ ((p1 &&& (16 : Int32)) = 0) → b1 = (-69 : Int32)) → own_Go p e below (own_K (fun v h L => v = some (.int 1) ∧ Fr n0 L) s room_1.cells room_1.slots) T0 (mkF m 39 #[.val (.int p1), .val (.int p2), .val (.int ln), .val (.int b0), .unset, .unset, .unset, .unset, .unset, .unset] [(.int b1)]) := by
      intro b1 b1_t b1_f
      have B1 : b1.toInt8.toInt32 = b1 := own_jb b1_t b1_f (own_b8 _) (by decide)
      refine own_go (fun t k => XS.istore X0.here hx rfl (hb hby at_39) rfl (l' := #[.val (.int p1), .val (.int p2), .val (.int ln), .val (.int b0), .val (.int b1), .unset, .unset, .unset, .unset, .unset]) rfl k) ?_
      show own_Go p e below _ T0 (mkF m 41 #[.val (.int p1), .val (.int p2), .val (.int ln), .val (.int b0), .val (.int b1), .unset, .unset, .unset, .unset, .unset] [])
      refine own_go (fun t k => XS.iloadN X0.here hx rfl (hb hby at_41) rfl k) ?_
      show own_Go p e below _ T0 (mkF m 42 #[.val (.int p1), .val (.int p2), .val (.int ln), .val (.int b0), .val (.int b1), .unset, .unset, .unset, .unset, .unset] [(.int p1)])
      refine own_go (fun t k => XS.bipush X0.here hx rfl (hb hby at_42) k) ?_
      show own_Go p e below _ T0 (mkF m 44 #[.val (.int p1), .val (.int p2), .val (.int ln), .val (.int b0), .val (.int b1), .unset, .unset, .unset, .unset, .unset] [(.int (32 : Int32)), (.int p1)])
      refine own_go (fun t k => XS.iand X0.here hx rfl (hb hby at_44) rfl k) ?_
      show own_Go p e below _ T0 (mkF m 45 #[.val (.int p1), .val (.int p2), .val (.int ln), .val (.int b0), .val (.int b1), .unset, .unset, .unset, .unset, .unset] [(.int (p1 &&& (32 : Int32)))])
      have jn45 : ∀ (b2 : Int32), (((p1 &&& (32 : Int32)) = 0) → b2 = (p2 >>> ((16 : Int32) &&& 31)).toInt8.toInt32) → (¬ ((p1 &&& (32 : Int32)) = 0) → b2 = (-65 : Int32)) → own_Go p e below (own_K (fun v h L => v = some (.int 1) ∧ Fr n0 L) s room_1.cells room_1.slots) T0 (mkF m 58 #[.val (.int p1), .val (.int p2), .val (.int ln), .val (.int b0), .val (.int b1), .unset, .unset, .unset, .unset, .unset] [(.int b2)]) := by
        intro b2 b2_t b2_f
        have B2 : b2.toInt8.toInt32 = b2 := own_jb b2_t b2_f (own_b8 _) (by decide)
        refine own_go (fun t k => XS.istore X0.here hx rfl (hb hby at_58) rfl (l' := #[.val (.int p1), .val (.int p2), .val (.int ln), .val (.int b0), .val (.int b1), .val (.int b2), .unset, .unset, .unset, .unset]) rfl k) ?_
        show own_Go p e below _ T0 (mkF m 60 #[.val (.int p1), .val (.int p2), .val (.int ln), .val (.int b0), .val (.int b1), .val (.int b2), .unset, .unset, .unset, .unset] [])
        refine own_go (fun t k => XS.iloadN X0.here hx rfl (hb hby at_60) rfl k) ?_
        show own_Go p e below _ T0 (mkF m 61 #[.val (.int p1), .val (.int p2), .val (.int ln), .val (.int b0), .val (.int b1), .val (.int b2), .unset, .unset, .unset, .unset] [(.int p2)])
        refine own_go (fun t k => XS.bipush X0.here hx rfl (hb hby at_61) k) ?_
        show own_Go p e below _ T0 (mkF m 63 #[.val (.int p1), .val (.int p2), .val (.int ln), .val (.int b0), .val (.int b1), .val (.int b2), .unset, .unset, .unset, .unset] [(.int (24 : Int32)), (.int p2)])
        refine own_go (fun t k => XS.ishr X0.here hx rfl (hb hby at_63) rfl k) ?_
        show own_Go p e below _ T0 (mkF m 64 #[.val (.int p1), .val (.int p2), .val (.int ln), .val (.int b0), .val (.int b1), .val (.int b2), .unset, .unset, .unset, .unset] [(.int (p2 >>> ((24 : Int32) &&& 31)))])
        refine own_go (fun t k => XS.i2b X0.here hx rfl (hb hby at_64) rfl k) ?_
        show own_Go p e below _ T0 (mkF m 65 #[.val (.int p1), .val (.int p2), .val (.int ln), .val (.int b0), .val (.int b1), .val (.int b2), .unset, .unset, .unset, .unset] [(.int (p2 >>> ((24 : Int32) &&& 31)).toInt8.toInt32)])
        refine own_go (fun t k => XS.istore X0.here hx rfl (hb hby at_65) rfl (l' := #[.val (.int p1), .val (.int p2), .val (.int ln), .val (.int b0), .val (.int b1), .val (.int b2), .val (.int (p2 >>> ((24 : Int32) &&& 31)).toInt8.toInt32), .unset, .unset, .unset]) rfl k) ?_
        show own_Go p e below _ T0 (mkF m 67 #[.val (.int p1), .val (.int p2), .val (.int ln), .val (.int b0), .val (.int b1), .val (.int b2), .val (.int (p2 >>> ((24 : Int32) &&& 31)).toInt8.toInt32), .unset, .unset, .unset] [])
        refine own_go (fun t k => XS.iloadN X0.here hx rfl (hb hby at_67) rfl k) ?_
        show own_Go p e below _ T0 (mkF m 68 #[.val (.int p1), .val (.int p2), .val (.int ln), .val (.int b0), .val (.int b1), .val (.int b2), .val (.int (p2 >>> ((24 : Int32) &&& 31)).toInt8.toInt32), .unset, .unset, .unset] [(.int ln)])
        refine own_go (fun t k => XS.iloadN X0.here hx rfl (hb hby at_68) rfl k) ?_
        show own_Go p e below _ T0 (mkF m 69 #[.val (.int p1), .val (.int p2), .val (.int ln), .val (.int b0), .val (.int b1), .val (.int b2), .val (.int (p2 >>> ((24 : Int32) &&& 31)).toInt8.toInt32), .unset, .unset, .unset] [(.int b0), (.int ln)])
        refine own_go (fun t k => XS.iload X0.here hx rfl (hb hby at_69) rfl k) ?_
        show own_Go p e below _ T0 (mkF m 71 #[.val (.int p1), .val (.int p2), .val (.int ln), .val (.int b0), .val (.int b1), .val (.int b2), .val (.int (p2 >>> ((24 : Int32) &&& 31)).toInt8.toInt32), .unset, .unset, .unset] [(.int b1), (.int b0), (.int ln)])
        refine own_go (fun t k => XS.iload X0.here hx rfl (hb hby at_71) rfl k) ?_
        show own_Go p e below _ T0 (mkF m 73 #[.val (.int p1), .val (.int p2), .val (.int ln), .val (.int b0), .val (.int b1), .val (.int b2), .val (.int (p2 >>> ((24 : Int32) &&& 31)).toInt8.toInt32), .unset, .unset, .unset] [(.int b2), (.int b1), (.int b0), (.int ln)])
        refine own_go (fun t k => XS.iload X0.here hx rfl (hb hby at_73) rfl k) ?_
        show own_Go p e below _ T0 (mkF m 75 #[.val (.int p1), .val (.int p2), .val (.int ln), .val (.int b0), .val (.int b1), .val (.int b2), .val (.int (p2 >>> ((24 : Int32) &&& 31)).toInt8.toInt32), .unset, .unset, .unset] [(.int (p2 >>> ((24 : Int32) &&& 31)).toInt8.toInt32), (.int b2), (.int b1), (.int b0), (.int ln)])
        rcases own_c5 ln hln.1 hln.2 with rfl | rfl | rfl | rfl | rfl
        · show own_Go p e below _ T0 (mkF m 75 #[.val (.int p1), .val (.int p2), .val (.int (0 : Int32)), .val (.int b0), .val (.int b1), .val (.int b2), .val (.int (p2 >>> ((24 : Int32) &&& 31)).toInt8.toInt32), .unset, .unset, .unset] [(.int (p2 >>> ((24 : Int32) &&& 31)).toInt8.toInt32), (.int b2), (.int b1), (.int b0), (.int (0 : Int32))])
          obtain ⟨_, T1, L1, X1, ⟨⟨bb, kb, rfl, ge_bb, old1, Vb⟩, N1⟩, st1⟩ := own_callS X0 hx hZ (y := (⟨"com/example/tallygate/tallygate/codec/Utf8TextAfterByteOrderMarkPinLaw", "pick", "(IBBBB)[B"⟩ : MethodName)) (argsL := [(.int (0 : Int32)), (.int b0), (.int b1), (.int b2), (.int (p2 >>> ((24 : Int32) &&& 31)).toInt8.toInt32)]) (rest := []) (Ls := #[.val (.int p1), .val (.int p2), .val (.int (0 : Int32)), .val (.int b0), .val (.int b1), .val (.int b2), .val (.int (p2 >>> ((24 : Int32) &&& 31)).toInt8.toInt32), .unset, .unset, .unset]) hown (own_w hw 0 rfl) (own_w hw 1 rfl) (own_w hw 2 rfl) (own_w hw 3 rfl) (by decide) e0 (rm1_0 l Z a0 hw [] b0 b1 b2 (p2 >>> ((24 : Int32) &&& 31)).toInt8.toInt32 h0 n0 Z0 O0 B0 B1 B2 (own_b8 _)) 0 (by decide) (by decide) (by decide) (by decide) (by rw [hml]; rfl) (lenOf pd_0 rfl) rfl (Nat.le_of_eq rfl) (hb hby at_75)
          have M1 := Fr.app N0 N1
          refine own_go st1 ?_
          show own_Go p e below _ T1 (mkF m 78 #[.val (.int p1), .val (.int p2), .val (.int (0 : Int32)), .val (.int b0), .val (.int b1), .val (.int b2), .val (.int (p2 >>> ((24 : Int32) &&& 31)).toInt8.toInt32), .unset, .unset, .unset] [(.ref bb)])
          refine own_go (fun t k => XS.astore X1.here hx rfl (hb hby at_78) rfl rfl (l' := #[.val (.int p1), .val (.int p2), .val (.int (0 : Int32)), .val (.int b0), .val (.int b1), .val (.int b2), .val (.int (p2 >>> ((24 : Int32) &&& 31)).toInt8.toInt32), .val (.ref bb), .unset, .unset]) rfl k) ?_
          show own_Go p e below _ T1 (mkF m 80 #[.val (.int p1), .val (.int p2), .val (.int (0 : Int32)), .val (.int b0), .val (.int b1), .val (.int b2), .val (.int (p2 >>> ((24 : Int32) &&& 31)).toInt8.toInt32), .val (.ref bb), .unset, .unset] [])
          refine own_go (fun t k => XS.iloadN X1.here hx rfl (hb hby at_80) rfl k) ?_
          show own_Go p e below _ T1 (mkF m 81 #[.val (.int p1), .val (.int p2), .val (.int (0 : Int32)), .val (.int b0), .val (.int b1), .val (.int b2), .val (.int (p2 >>> ((24 : Int32) &&& 31)).toInt8.toInt32), .val (.ref bb), .unset, .unset] [(.int (0 : Int32))])
          refine own_go (fun t k => XS.iconst X1.here hx rfl (hb hby at_81) k) ?_
          show own_Go p e below _ T1 (mkF m 82 #[.val (.int p1), .val (.int p2), .val (.int (0 : Int32)), .val (.int b0), .val (.int b1), .val (.int b2), .val (.int (p2 >>> ((24 : Int32) &&& 31)).toInt8.toInt32), .val (.ref bb), .unset, .unset] [(.int (3 : Int32)), (.int (0 : Int32))])
          refine own_go (fun t k => XS.icmpYes X1.here hx rfl (pc0 := 82) (pc' := 124) rfl (hb hby at_82) rfl (XT.ii_lt_t (by decide)) (by decide) (by decide) k) ?_
          show own_Go p e below _ T1 (mkF m 124 #[.val (.int p1), .val (.int p2), .val (.int (0 : Int32)), .val (.int b0), .val (.int b1), .val (.int b2), .val (.int (p2 >>> ((24 : Int32) &&& 31)).toInt8.toInt32), .val (.ref bb), .unset, .unset] [])
          refine own_go (fun t k => XS.iconst X1.here hx rfl (hb hby at_124) k) ?_
          show own_Go p e below _ T1 (mkF m 125 #[.val (.int p1), .val (.int p2), .val (.int (0 : Int32)), .val (.int b0), .val (.int b1), .val (.int b2), .val (.int (p2 >>> ((24 : Int32) &&& 31)).toInt8.toInt32), .val (.ref bb), .unset, .unset] [(.int (0 : Int32))])
          refine own_go (fun t k => XS.istore X1.here hx rfl (hb hby at_125) rfl (l' := #[.val (.int p1), .val (.int p2), .val (.int (0 : Int32)), .val (.int b0), .val (.int b1), .val (.int b2), .val (.int (p2 >>> ((24 : Int32) &&& 31)).toInt8.toInt32), .val (.ref bb), .val (.int (0 : Int32)), .unset]) rfl k) ?_
          show own_Go p e below _ T1 (mkF m 127 #[.val (.int p1), .val (.int p2), .val (.int (0 : Int32)), .val (.int b0), .val (.int b1), .val (.int b2), .val (.int (p2 >>> ((24 : Int32) &&& 31)).toInt8.toInt32), .val (.ref bb), .val (.int (0 : Int32)), .unset] [])
          refine own_go (fun t k => XS.iload X1.here hx rfl (hb hby at_127) rfl k) ?_
          show own_Go p e below _ T1 (mkF m 129 #[.val (.int p1), .val (.int p2), .val (.int (0 : Int32)), .val (.int b0), .val (.int b1), .val (.int b2), .val (.int (p2 >>> ((24 : Int32) &&& 31)).toInt8.toInt32), .val (.ref bb), .val (.int (0 : Int32)), .unset] [(.int (0 : Int32))])
          refine own_go (fun t k => XS.ifYes X1.here hx rfl (pc0 := 129) (pc' := 136) rfl (hb hby at_129) rfl (XT.i0_eq_t (by decide)) (by decide) (by decide) k) ?_
          show own_Go p e below _ T1 (mkF m 136 #[.val (.int p1), .val (.int p2), .val (.int (0 : Int32)), .val (.int b0), .val (.int b1), .val (.int b2), .val (.int (p2 >>> ((24 : Int32) &&& 31)).toInt8.toInt32), .val (.ref bb), .val (.int (0 : Int32)), .unset] [])
          refine own_go (fun t k => XS.iconst X1.here hx rfl (hb hby at_136) k) ?_
          show own_Go p e below _ T1 (mkF m 137 #[.val (.int p1), .val (.int p2), .val (.int (0 : Int32)), .val (.int b0), .val (.int b1), .val (.int b2), .val (.int (p2 >>> ((24 : Int32) &&& 31)).toInt8.toInt32), .val (.ref bb), .val (.int (0 : Int32)), .unset] [(.int (0 : Int32))])
          refine own_go (fun t k => XS.istore X1.here hx rfl (hb hby at_137) rfl (l' := #[.val (.int p1), .val (.int p2), .val (.int (0 : Int32)), .val (.int b0), .val (.int b1), .val (.int b2), .val (.int (p2 >>> ((24 : Int32) &&& 31)).toInt8.toInt32), .val (.ref bb), .val (.int (0 : Int32)), .val (.int (0 : Int32))]) rfl k) ?_
          show own_Go p e below _ T1 (mkF m 139 #[.val (.int p1), .val (.int p2), .val (.int (0 : Int32)), .val (.int b0), .val (.int b1), .val (.int b2), .val (.int (p2 >>> ((24 : Int32) &&& 31)).toInt8.toInt32), .val (.ref bb), .val (.int (0 : Int32)), .val (.int (0 : Int32))] [])
          refine own_go (fun t k => XS.aload X1.here hx rfl (hb hby at_139) rfl rfl k) ?_
          show own_Go p e below _ T1 (mkF m 141 #[.val (.int p1), .val (.int p2), .val (.int (0 : Int32)), .val (.int b0), .val (.int b1), .val (.int b2), .val (.int (p2 >>> ((24 : Int32) &&& 31)).toInt8.toInt32), .val (.ref bb), .val (.int (0 : Int32)), .val (.int (0 : Int32))] [(.ref bb)])
          obtain ⟨_, T2, L2, X2, ⟨rfl, N2, e2⟩, st2⟩ := own_callS X1 hx hZ (y := (⟨"com/example/tallygate/tallygate/codec/Utf8Text", "afterByteOrderMark", "([B)I"⟩ : MethodName)) (argsL := [(.ref bb)]) (rest := []) (Ls := #[.val (.int p1), .val (.int p2), .val (.int (0 : Int32)), .val (.int b0), .val (.int b1), .val (.int b2), .val (.int (p2 >>> ((24 : Int32) &&& 31)).toInt8.toInt32), .val (.ref bb), .val (.int (0 : Int32)), .val (.int (0 : Int32))]) hown (own_w hw 5 rfl) (own_w hw 6 rfl) (own_w hw 7 rfl) (own_w hw 8 rfl) (by decide) rfl (rm2_0 l Z a0 hw [] bb am kb km  T1.heap n0 (own_oldge old1) old1 S_BOM V_BOM Vb) 0 (by decide) (by decide) (by decide) (by decide) (by rw [hml]; rfl) (lenOf pd_2 rfl) rfl (Nat.le_of_eq rfl) (hb hby at_141)
          have M2 := Fr.app M1 N2
          refine own_go st2 ?_
          show own_Go p e below _ T2 (mkF m 144 #[.val (.int p1), .val (.int p2), .val (.int (0 : Int32)), .val (.int b0), .val (.int b1), .val (.int b2), .val (.int (p2 >>> ((24 : Int32) &&& 31)).toInt8.toInt32), .val (.ref bb), .val (.int (0 : Int32)), .val (.int (0 : Int32))] [(.int (0 : Int32))])
          refine own_go (fun t k => XS.iload X2.here hx rfl (hb hby at_144) rfl k) ?_
          show own_Go p e below _ T2 (mkF m 146 #[.val (.int p1), .val (.int p2), .val (.int (0 : Int32)), .val (.int b0), .val (.int b1), .val (.int b2), .val (.int (p2 >>> ((24 : Int32) &&& 31)).toInt8.toInt32), .val (.ref bb), .val (.int (0 : Int32)), .val (.int (0 : Int32))] [(.int (0 : Int32)), (.int (0 : Int32))])
          refine own_go (fun t k => XS.icmpNo X2.here hx rfl (hb hby at_146) rfl (XT.ii_ne_f (by decide)) k) ?_
          show own_Go p e below _ T2 (mkF m 149 #[.val (.int p1), .val (.int p2), .val (.int (0 : Int32)), .val (.int b0), .val (.int b1), .val (.int b2), .val (.int (p2 >>> ((24 : Int32) &&& 31)).toInt8.toInt32), .val (.ref bb), .val (.int (0 : Int32)), .val (.int (0 : Int32))] [])
          refine own_go (fun t k => XS.iconst X2.here hx rfl (hb hby at_149) k) ?_
          show own_Go p e below _ T2 (mkF m 150 #[.val (.int p1), .val (.int p2), .val (.int (0 : Int32)), .val (.int b0), .val (.int b1), .val (.int b2), .val (.int (p2 >>> ((24 : Int32) &&& 31)).toInt8.toInt32), .val (.ref bb), .val (.int (0 : Int32)), .val (.int (0 : Int32))] [(.int (1 : Int32))])
          refine own_go (fun t k => XS.goto X2.here hx rfl (pc0 := 150) (pc' := 154) rfl (hb hby at_150) (by decide) (by decide) k) ?_
          show own_Go p e below _ T2 (mkF m 154 #[.val (.int p1), .val (.int p2), .val (.int (0 : Int32)), .val (.int b0), .val (.int b1), .val (.int b2), .val (.int (p2 >>> ((24 : Int32) &&& 31)).toInt8.toInt32), .val (.ref bb), .val (.int (0 : Int32)), .val (.int (0 : Int32))] [(.int (1 : Int32))])
          refine own_retZ X2 hx hlk hret (hb hby at_154) (Or.inr rfl) (by decide) (by decide) ?_
          exact ⟨rfl, M2⟩
        · show own_Go p e below _ T0 (mkF m 75 #[.val (.int p1), .val (.int p2), .val (.int (1 : Int32)), .val (.int b0), .val (.int b1), .val (.int b2), .val (.int (p2 >>> ((24 : Int32) &&& 31)).toInt8.toInt32), .unset, .unset, .unset] [(.int (p2 >>> ((24 : Int32) &&& 31)).toInt8.toInt32), (.int b2), (.int b1), (.int b0), (.int (1 : Int32))])
          obtain ⟨_, T3, L3, X3, ⟨⟨bb, kb, rfl, ge_bb, old3, Vb⟩, N3⟩, st3⟩ := own_callS X0 hx hZ (y := (⟨"com/example/tallygate/tallygate/codec/Utf8TextAfterByteOrderMarkPinLaw", "pick", "(IBBBB)[B"⟩ : MethodName)) (argsL := [(.int (1 : Int32)), (.int b0), (.int b1), (.int b2), (.int (p2 >>> ((24 : Int32) &&& 31)).toInt8.toInt32)]) (rest := []) (Ls := #[.val (.int p1), .val (.int p2), .val (.int (1 : Int32)), .val (.int b0), .val (.int b1), .val (.int b2), .val (.int (p2 >>> ((24 : Int32) &&& 31)).toInt8.toInt32), .unset, .unset, .unset]) hown (own_w hw 0 rfl) (own_w hw 1 rfl) (own_w hw 2 rfl) (own_w hw 3 rfl) (by decide) e0 (rm1_1 l Z a0 hw [] b0 b1 b2 (p2 >>> ((24 : Int32) &&& 31)).toInt8.toInt32 h0 n0 Z0 O0 B0 B1 B2 (own_b8 _)) 0 (by decide) (by decide) (by decide) (by decide) (by rw [hml]; rfl) (lenOf pd_0 rfl) rfl (Nat.le_of_eq rfl) (hb hby at_75)
          have M3 := Fr.app N0 N3
          refine own_go st3 ?_
          show own_Go p e below _ T3 (mkF m 78 #[.val (.int p1), .val (.int p2), .val (.int (1 : Int32)), .val (.int b0), .val (.int b1), .val (.int b2), .val (.int (p2 >>> ((24 : Int32) &&& 31)).toInt8.toInt32), .unset, .unset, .unset] [(.ref bb)])
          refine own_go (fun t k => XS.astore X3.here hx rfl (hb hby at_78) rfl rfl (l' := #[.val (.int p1), .val (.int p2), .val (.int (1 : Int32)), .val (.int b0), .val (.int b1), .val (.int b2), .val (.int (p2 >>> ((24 : Int32) &&& 31)).toInt8.toInt32), .val (.ref bb), .unset, .unset]) rfl k) ?_
          show own_Go p e below _ T3 (mkF m 80 #[.val (.int p1), .val (.int p2), .val (.int (1 : Int32)), .val (.int b0), .val (.int b1), .val (.int b2), .val (.int (p2 >>> ((24 : Int32) &&& 31)).toInt8.toInt32), .val (.ref bb), .unset, .unset] [])
          refine own_go (fun t k => XS.iloadN X3.here hx rfl (hb hby at_80) rfl k) ?_
          show own_Go p e below _ T3 (mkF m 81 #[.val (.int p1), .val (.int p2), .val (.int (1 : Int32)), .val (.int b0), .val (.int b1), .val (.int b2), .val (.int (p2 >>> ((24 : Int32) &&& 31)).toInt8.toInt32), .val (.ref bb), .unset, .unset] [(.int (1 : Int32))])
          refine own_go (fun t k => XS.iconst X3.here hx rfl (hb hby at_81) k) ?_
          show own_Go p e below _ T3 (mkF m 82 #[.val (.int p1), .val (.int p2), .val (.int (1 : Int32)), .val (.int b0), .val (.int b1), .val (.int b2), .val (.int (p2 >>> ((24 : Int32) &&& 31)).toInt8.toInt32), .val (.ref bb), .unset, .unset] [(.int (3 : Int32)), (.int (1 : Int32))])
          refine own_go (fun t k => XS.icmpYes X3.here hx rfl (pc0 := 82) (pc' := 124) rfl (hb hby at_82) rfl (XT.ii_lt_t (by decide)) (by decide) (by decide) k) ?_
          show own_Go p e below _ T3 (mkF m 124 #[.val (.int p1), .val (.int p2), .val (.int (1 : Int32)), .val (.int b0), .val (.int b1), .val (.int b2), .val (.int (p2 >>> ((24 : Int32) &&& 31)).toInt8.toInt32), .val (.ref bb), .unset, .unset] [])
          refine own_go (fun t k => XS.iconst X3.here hx rfl (hb hby at_124) k) ?_
          show own_Go p e below _ T3 (mkF m 125 #[.val (.int p1), .val (.int p2), .val (.int (1 : Int32)), .val (.int b0), .val (.int b1), .val (.int b2), .val (.int (p2 >>> ((24 : Int32) &&& 31)).toInt8.toInt32), .val (.ref bb), .unset, .unset] [(.int (0 : Int32))])
          refine own_go (fun t k => XS.istore X3.here hx rfl (hb hby at_125) rfl (l' := #[.val (.int p1), .val (.int p2), .val (.int (1 : Int32)), .val (.int b0), .val (.int b1), .val (.int b2), .val (.int (p2 >>> ((24 : Int32) &&& 31)).toInt8.toInt32), .val (.ref bb), .val (.int (0 : Int32)), .unset]) rfl k) ?_
          show own_Go p e below _ T3 (mkF m 127 #[.val (.int p1), .val (.int p2), .val (.int (1 : Int32)), .val (.int b0), .val (.int b1), .val (.int b2), .val (.int (p2 >>> ((24 : Int32) &&& 31)).toInt8.toInt32), .val (.ref bb), .val (.int (0 : Int32)), .unset] [])
          refine own_go (fun t k => XS.iload X3.here hx rfl (hb hby at_127) rfl k) ?_
          show own_Go p e below _ T3 (mkF m 129 #[.val (.int p1), .val (.int p2), .val (.int (1 : Int32)), .val (.int b0), .val (.int b1), .val (.int b2), .val (.int (p2 >>> ((24 : Int32) &&& 31)).toInt8.toInt32), .val (.ref bb), .val (.int (0 : Int32)), .unset] [(.int (0 : Int32))])
          refine own_go (fun t k => XS.ifYes X3.here hx rfl (pc0 := 129) (pc' := 136) rfl (hb hby at_129) rfl (XT.i0_eq_t (by decide)) (by decide) (by decide) k) ?_
          show own_Go p e below _ T3 (mkF m 136 #[.val (.int p1), .val (.int p2), .val (.int (1 : Int32)), .val (.int b0), .val (.int b1), .val (.int b2), .val (.int (p2 >>> ((24 : Int32) &&& 31)).toInt8.toInt32), .val (.ref bb), .val (.int (0 : Int32)), .unset] [])
          refine own_go (fun t k => XS.iconst X3.here hx rfl (hb hby at_136) k) ?_
          show own_Go p e below _ T3 (mkF m 137 #[.val (.int p1), .val (.int p2), .val (.int (1 : Int32)), .val (.int b0), .val (.int b1), .val (.int b2), .val (.int (p2 >>> ((24 : Int32) &&& 31)).toInt8.toInt32), .val (.ref bb), .val (.int (0 : Int32)), .unset] [(.int (0 : Int32))])
          refine own_go (fun t k => XS.istore X3.here hx rfl (hb hby at_137) rfl (l' := #[.val (.int p1), .val (.int p2), .val (.int (1 : Int32)), .val (.int b0), .val (.int b1), .val (.int b2), .val (.int (p2 >>> ((24 : Int32) &&& 31)).toInt8.toInt32), .val (.ref bb), .val (.int (0 : Int32)), .val (.int (0 : Int32))]) rfl k) ?_
          show own_Go p e below _ T3 (mkF m 139 #[.val (.int p1), .val (.int p2), .val (.int (1 : Int32)), .val (.int b0), .val (.int b1), .val (.int b2), .val (.int (p2 >>> ((24 : Int32) &&& 31)).toInt8.toInt32), .val (.ref bb), .val (.int (0 : Int32)), .val (.int (0 : Int32))] [])
          refine own_go (fun t k => XS.aload X3.here hx rfl (hb hby at_139) rfl rfl k) ?_
          show own_Go p e below _ T3 (mkF m 141 #[.val (.int p1), .val (.int p2), .val (.int (1 : Int32)), .val (.int b0), .val (.int b1), .val (.int b2), .val (.int (p2 >>> ((24 : Int32) &&& 31)).toInt8.toInt32), .val (.ref bb), .val (.int (0 : Int32)), .val (.int (0 : Int32))] [(.ref bb)])
          obtain ⟨_, T4, L4, X4, ⟨rfl, N4, e4⟩, st4⟩ := own_callS X3 hx hZ (y := (⟨"com/example/tallygate/tallygate/codec/Utf8Text", "afterByteOrderMark", "([B)I"⟩ : MethodName)) (argsL := [(.ref bb)]) (rest := []) (Ls := #[.val (.int p1), .val (.int p2), .val (.int (1 : Int32)), .val (.int b0), .val (.int b1), .val (.int b2), .val (.int (p2 >>> ((24 : Int32) &&& 31)).toInt8.toInt32), .val (.ref bb), .val (.int (0 : Int32)), .val (.int (0 : Int32))]) hown (own_w hw 5 rfl) (own_w hw 6 rfl) (own_w hw 7 rfl) (own_w hw 8 rfl) (by decide) rfl (rm2_1 l Z a0 hw [] bb am kb km b0 T3.heap n0 (own_oldge old3) old3 S_BOM V_BOM Vb) 0 (by decide) (by decide) (by decide) (by decide) (by rw [hml]; rfl) (lenOf pd_2 rfl) rfl (Nat.le_of_eq rfl) (hb hby at_141)
          have M4 := Fr.app M3 N4
          refine own_go st4 ?_
          show own_Go p e below _ T4 (mkF m 144 #[.val (.int p1), .val (.int p2), .val (.int (1 : Int32)), .val (.int b0), .val (.int b1), .val (.int b2), .val (.int (p2 >>> ((24 : Int32) &&& 31)).toInt8.toInt32), .val (.ref bb), .val (.int (0 : Int32)), .val (.int (0 : Int32))] [(.int (0 : Int32))])
          refine own_go (fun t k => XS.iload X4.here hx rfl (hb hby at_144) rfl k) ?_
          show own_Go p e below _ T4 (mkF m 146 #[.val (.int p1), .val (.int p2), .val (.int (1 : Int32)), .val (.int b0), .val (.int b1), .val (.int b2), .val (.int (p2 >>> ((24 : Int32) &&& 31)).toInt8.toInt32), .val (.ref bb), .val (.int (0 : Int32)), .val (.int (0 : Int32))] [(.int (0 : Int32)), (.int (0 : Int32))])
          refine own_go (fun t k => XS.icmpNo X4.here hx rfl (hb hby at_146) rfl (XT.ii_ne_f (by decide)) k) ?_
          show own_Go p e below _ T4 (mkF m 149 #[.val (.int p1), .val (.int p2), .val (.int (1 : Int32)), .val (.int b0), .val (.int b1), .val (.int b2), .val (.int (p2 >>> ((24 : Int32) &&& 31)).toInt8.toInt32), .val (.ref bb), .val (.int (0 : Int32)), .val (.int (0 : Int32))] [])
          refine own_go (fun t k => XS.iconst X4.here hx rfl (hb hby at_149) k) ?_
          show own_Go p e below _ T4 (mkF m 150 #[.val (.int p1), .val (.int p2), .val (.int (1 : Int32)), .val (.int b0), .val (.int b1), .val (.int b2), .val (.int (p2 >>> ((24 : Int32) &&& 31)).toInt8.toInt32), .val (.ref bb), .val (.int (0 : Int32)), .val (.int (0 : Int32))] [(.int (1 : Int32))])
          refine own_go (fun t k => XS.goto X4.here hx rfl (pc0 := 150) (pc' := 154) rfl (hb hby at_150) (by decide) (by decide) k) ?_
          show own_Go p e below _ T4 (mkF m 154 #[.val (.int p1), .val (.int p2), .val (.int (1 : Int32)), .val (.int b0), .val (.int b1), .val (.int b2), .val (.int (p2 >>> ((24 : Int32) &&& 31)).toInt8.toInt32), .val (.ref bb), .val (.int (0 : Int32)), .val (.int (0 : Int32))] [(.int (1 : Int32))])
          refine own_retZ X4 hx hlk hret (hb hby at_154) (Or.inr rfl) (by decide) (by decide) ?_
          exact ⟨rfl, M4⟩
        · show own_Go p e below _ T0 (mkF m 75 #[.val (.int p1), .val (.int p2), .val (.int (2 : Int32)), .val (.int b0), .val (.int b1), .val (.int b2), .val (.int (p2 >>> ((24 : Int32) &&& 31)).toInt8.toInt32), .unset, .unset, .unset] [(.int (p2 >>> ((24 : Int32) &&& 31)).toInt8.toInt32), (.int b2), (.int b1), (.int b0), (.int (2 : Int32))])
          obtain ⟨_, T5, L5, X5, ⟨⟨bb, kb, rfl, ge_bb, old5, Vb⟩, N5⟩, st5⟩ := own_callS X0 hx hZ (y := (⟨"com/example/tallygate/tallygate/codec/Utf8TextAfterByteOrderMarkPinLaw", "pick", "(IBBBB)[B"⟩ : MethodName)) (argsL := [(.int (2 : Int32)), (.int b0), (.int b1), (.int b2), (.int (p2 >>> ((24 : Int32) &&& 31)).toInt8.toInt32)]) (rest := []) (Ls := #[.val (.int p1), .val (.int p2), .val (.int (2 : Int32)), .val (.int b0), .val (.int b1), .val (.int b2), .val (.int (p2 >>> ((24 : Int32) &&& 31)).toInt8.toInt32), .unset, .unset, .unset]) hown (own_w hw 0 rfl) (own_w hw 1 rfl) (own_w hw 2 rfl) (own_w hw 3 rfl) (by decide) e0 (rm1_2 l Z a0 hw [] b0 b1 b2 (p2 >>> ((24 : Int32) &&& 31)).toInt8.toInt32 h0 n0 Z0 O0 B0 B1 B2 (own_b8 _)) 0 (by decide) (by decide) (by decide) (by decide) (by rw [hml]; rfl) (lenOf pd_0 rfl) rfl (Nat.le_of_eq rfl) (hb hby at_75)
          have M5 := Fr.app N0 N5
          refine own_go st5 ?_
          show own_Go p e below _ T5 (mkF m 78 #[.val (.int p1), .val (.int p2), .val (.int (2 : Int32)), .val (.int b0), .val (.int b1), .val (.int b2), .val (.int (p2 >>> ((24 : Int32) &&& 31)).toInt8.toInt32), .unset, .unset, .unset] [(.ref bb)])
          refine own_go (fun t k => XS.astore X5.here hx rfl (hb hby at_78) rfl rfl (l' := #[.val (.int p1), .val (.int p2), .val (.int (2 : Int32)), .val (.int b0), .val (.int b1), .val (.int b2), .val (.int (p2 >>> ((24 : Int32) &&& 31)).toInt8.toInt32), .val (.ref bb), .unset, .unset]) rfl k) ?_
          show own_Go p e below _ T5 (mkF m 80 #[.val (.int p1), .val (.int p2), .val (.int (2 : Int32)), .val (.int b0), .val (.int b1), .val (.int b2), .val (.int (p2 >>> ((24 : Int32) &&& 31)).toInt8.toInt32), .val (.ref bb), .unset, .unset] [])
          refine own_go (fun t k => XS.iloadN X5.here hx rfl (hb hby at_80) rfl k) ?_
          show own_Go p e below _ T5 (mkF m 81 #[.val (.int p1), .val (.int p2), .val (.int (2 : Int32)), .val (.int b0), .val (.int b1), .val (.int b2), .val (.int (p2 >>> ((24 : Int32) &&& 31)).toInt8.toInt32), .val (.ref bb), .unset, .unset] [(.int (2 : Int32))])
          refine own_go (fun t k => XS.iconst X5.here hx rfl (hb hby at_81) k) ?_
          show own_Go p e below _ T5 (mkF m 82 #[.val (.int p1), .val (.int p2), .val (.int (2 : Int32)), .val (.int b0), .val (.int b1), .val (.int b2), .val (.int (p2 >>> ((24 : Int32) &&& 31)).toInt8.toInt32), .val (.ref bb), .unset, .unset] [(.int (3 : Int32)), (.int (2 : Int32))])
          refine own_go (fun t k => XS.icmpYes X5.here hx rfl (pc0 := 82) (pc' := 124) rfl (hb hby at_82) rfl (XT.ii_lt_t (by decide)) (by decide) (by decide) k) ?_
          show own_Go p e below _ T5 (mkF m 124 #[.val (.int p1), .val (.int p2), .val (.int (2 : Int32)), .val (.int b0), .val (.int b1), .val (.int b2), .val (.int (p2 >>> ((24 : Int32) &&& 31)).toInt8.toInt32), .val (.ref bb), .unset, .unset] [])
          refine own_go (fun t k => XS.iconst X5.here hx rfl (hb hby at_124) k) ?_
          show own_Go p e below _ T5 (mkF m 125 #[.val (.int p1), .val (.int p2), .val (.int (2 : Int32)), .val (.int b0), .val (.int b1), .val (.int b2), .val (.int (p2 >>> ((24 : Int32) &&& 31)).toInt8.toInt32), .val (.ref bb), .unset, .unset] [(.int (0 : Int32))])
          refine own_go (fun t k => XS.istore X5.here hx rfl (hb hby at_125) rfl (l' := #[.val (.int p1), .val (.int p2), .val (.int (2 : Int32)), .val (.int b0), .val (.int b1), .val (.int b2), .val (.int (p2 >>> ((24 : Int32) &&& 31)).toInt8.toInt32), .val (.ref bb), .val (.int (0 : Int32)), .unset]) rfl k) ?_
          show own_Go p e below _ T5 (mkF m 127 #[.val (.int p1), .val (.int p2), .val (.int (2 : Int32)), .val (.int b0), .val (.int b1), .val (.int b2), .val (.int (p2 >>> ((24 : Int32) &&& 31)).toInt8.toInt32), .val (.ref bb), .val (.int (0 : Int32)), .unset] [])
          refine own_go (fun t k => XS.iload X5.here hx rfl (hb hby at_127) rfl k) ?_
          show own_Go p e below _ T5 (mkF m 129 #[.val (.int p1), .val (.int p2), .val (.int (2 : Int32)), .val (.int b0), .val (.int b1), .val (.int b2), .val (.int (p2 >>> ((24 : Int32) &&& 31)).toInt8.toInt32), .val (.ref bb), .val (.int (0 : Int32)), .unset] [(.int (0 : Int32))])
          refine own_go (fun t k => XS.ifYes X5.here hx rfl (pc0 := 129) (pc' := 136) rfl (hb hby at_129) rfl (XT.i0_eq_t (by decide)) (by decide) (by decide) k) ?_
          show own_Go p e below _ T5 (mkF m 136 #[.val (.int p1), .val (.int p2), .val (.int (2 : Int32)), .val (.int b0), .val (.int b1), .val (.int b2), .val (.int (p2 >>> ((24 : Int32) &&& 31)).toInt8.toInt32), .val (.ref bb), .val (.int (0 : Int32)), .unset] [])
          refine own_go (fun t k => XS.iconst X5.here hx rfl (hb hby at_136) k) ?_
          show own_Go p e below _ T5 (mkF m 137 #[.val (.int p1), .val (.int p2), .val (.int (2 : Int32)), .val (.int b0), .val (.int b1), .val (.int b2), .val (.int (p2 >>> ((24 : Int32) &&& 31)).toInt8.toInt32), .val (.ref bb), .val (.int (0 : Int32)), .unset] [(.int (0 : Int32))])
          refine own_go (fun t k => XS.istore X5.here hx rfl (hb hby at_137) rfl (l' := #[.val (.int p1), .val (.int p2), .val (.int (2 : Int32)), .val (.int b0), .val (.int b1), .val (.int b2), .val (.int (p2 >>> ((24 : Int32) &&& 31)).toInt8.toInt32), .val (.ref bb), .val (.int (0 : Int32)), .val (.int (0 : Int32))]) rfl k) ?_
          show own_Go p e below _ T5 (mkF m 139 #[.val (.int p1), .val (.int p2), .val (.int (2 : Int32)), .val (.int b0), .val (.int b1), .val (.int b2), .val (.int (p2 >>> ((24 : Int32) &&& 31)).toInt8.toInt32), .val (.ref bb), .val (.int (0 : Int32)), .val (.int (0 : Int32))] [])
          refine own_go (fun t k => XS.aload X5.here hx rfl (hb hby at_139) rfl rfl k) ?_
          show own_Go p e below _ T5 (mkF m 141 #[.val (.int p1), .val (.int p2), .val (.int (2 : Int32)), .val (.int b0), .val (.int b1), .val (.int b2), .val (.int (p2 >>> ((24 : Int32) &&& 31)).toInt8.toInt32), .val (.ref bb), .val (.int (0 : Int32)), .val (.int (0 : Int32))] [(.ref bb)])
          obtain ⟨_, T6, L6, X6, ⟨rfl, N6, e6⟩, st6⟩ := own_callS X5 hx hZ (y := (⟨"com/example/tallygate/tallygate/codec/Utf8Text", "afterByteOrderMark", "([B)I"⟩ : MethodName)) (argsL := [(.ref bb)]) (rest := []) (Ls := #[.val (.int p1), .val (.int p2), .val (.int (2 : Int32)), .val (.int b0), .val (.int b1), .val (.int b2), .val (.int (p2 >>> ((24 : Int32) &&& 31)).toInt8.toInt32), .val (.ref bb), .val (.int (0 : Int32)), .val (.int (0 : Int32))]) hown (own_w hw 5 rfl) (own_w hw 6 rfl) (own_w hw 7 rfl) (own_w hw 8 rfl) (by decide) rfl (rm2_2 l Z a0 hw [] bb am kb km b0 b1 T5.heap n0 (own_oldge old5) old5 S_BOM V_BOM Vb) 0 (by decide) (by decide) (by decide) (by decide) (by rw [hml]; rfl) (lenOf pd_2 rfl) rfl (Nat.le_of_eq rfl) (hb hby at_141)
          have M6 := Fr.app M5 N6
          refine own_go st6 ?_
          show own_Go p e below _ T6 (mkF m 144 #[.val (.int p1), .val (.int p2), .val (.int (2 : Int32)), .val (.int b0), .val (.int b1), .val (.int b2), .val (.int (p2 >>> ((24 : Int32) &&& 31)).toInt8.toInt32), .val (.ref bb), .val (.int (0 : Int32)), .val (.int (0 : Int32))] [(.int (0 : Int32))])
          refine own_go (fun t k => XS.iload X6.here hx rfl (hb hby at_144) rfl k) ?_
          show own_Go p e below _ T6 (mkF m 146 #[.val (.int p1), .val (.int p2), .val (.int (2 : Int32)), .val (.int b0), .val (.int b1), .val (.int b2), .val (.int (p2 >>> ((24 : Int32) &&& 31)).toInt8.toInt32), .val (.ref bb), .val (.int (0 : Int32)), .val (.int (0 : Int32))] [(.int (0 : Int32)), (.int (0 : Int32))])
          refine own_go (fun t k => XS.icmpNo X6.here hx rfl (hb hby at_146) rfl (XT.ii_ne_f (by decide)) k) ?_
          show own_Go p e below _ T6 (mkF m 149 #[.val (.int p1), .val (.int p2), .val (.int (2 : Int32)), .val (.int b0), .val (.int b1), .val (.int b2), .val (.int (p2 >>> ((24 : Int32) &&& 31)).toInt8.toInt32), .val (.ref bb), .val (.int (0 : Int32)), .val (.int (0 : Int32))] [])
          refine own_go (fun t k => XS.iconst X6.here hx rfl (hb hby at_149) k) ?_
          show own_Go p e below _ T6 (mkF m 150 #[.val (.int p1), .val (.int p2), .val (.int (2 : Int32)), .val (.int b0), .val (.int b1), .val (.int b2), .val (.int (p2 >>> ((24 : Int32) &&& 31)).toInt8.toInt32), .val (.ref bb), .val (.int (0 : Int32)), .val (.int (0 : Int32))] [(.int (1 : Int32))])
          refine own_go (fun t k => XS.goto X6.here hx rfl (pc0 := 150) (pc' := 154) rfl (hb hby at_150) (by decide) (by decide) k) ?_
          show own_Go p e below _ T6 (mkF m 154 #[.val (.int p1), .val (.int p2), .val (.int (2 : Int32)), .val (.int b0), .val (.int b1), .val (.int b2), .val (.int (p2 >>> ((24 : Int32) &&& 31)).toInt8.toInt32), .val (.ref bb), .val (.int (0 : Int32)), .val (.int (0 : Int32))] [(.int (1 : Int32))])
          refine own_retZ X6 hx hlk hret (hb hby at_154) (Or.inr rfl) (by decide) (by decide) ?_
          exact ⟨rfl, M6⟩
        · show own_Go p e below _ T0 (mkF m 75 #[.val (.int p1), .val (.int p2), .val (.int (3 : Int32)), .val (.int b0), .val (.int b1), .val (.int b2), .val (.int (p2 >>> ((24 : Int32) &&& 31)).toInt8.toInt32), .unset, .unset, .unset] [(.int (p2 >>> ((24 : Int32) &&& 31)).toInt8.toInt32), (.int b2), (.int b1), (.int b0), (.int (3 : Int32))])
          obtain ⟨_, T7, L7, X7, ⟨⟨bb, kb, rfl, ge_bb, old7, Vb⟩, N7⟩, st7⟩ := own_callS X0 hx hZ (y := (⟨"com/example/tallygate/tallygate/codec/Utf8TextAfterByteOrderMarkPinLaw", "pick", "(IBBBB)[B"⟩ : MethodName)) (argsL := [(.int (3 : Int32)), (.int b0), (.int b1), (.int b2), (.int (p2 >>> ((24 : Int32) &&& 31)).toInt8.toInt32)]) (rest := []) (Ls := #[.val (.int p1), .val (.int p2), .val (.int (3 : Int32)), .val (.int b0), .val (.int b1), .val (.int b2), .val (.int (p2 >>> ((24 : Int32) &&& 31)).toInt8.toInt32), .unset, .unset, .unset]) hown (own_w hw 0 rfl) (own_w hw 1 rfl) (own_w hw 2 rfl) (own_w hw 3 rfl) (by decide) e0 (rm1_3 l Z a0 hw [] b0 b1 b2 (p2 >>> ((24 : Int32) &&& 31)).toInt8.toInt32 h0 n0 Z0 O0 B0 B1 B2 (own_b8 _)) 0 (by decide) (by decide) (by decide) (by decide) (by rw [hml]; rfl) (lenOf pd_0 rfl) rfl (Nat.le_of_eq rfl) (hb hby at_75)
          have M7 := Fr.app N0 N7
          refine own_go st7 ?_
          show own_Go p e below _ T7 (mkF m 78 #[.val (.int p1), .val (.int p2), .val (.int (3 : Int32)), .val (.int b0), .val (.int b1), .val (.int b2), .val (.int (p2 >>> ((24 : Int32) &&& 31)).toInt8.toInt32), .unset, .unset, .unset] [(.ref bb)])
          refine own_go (fun t k => XS.astore X7.here hx rfl (hb hby at_78) rfl rfl (l' := #[.val (.int p1), .val (.int p2), .val (.int (3 : Int32)), .val (.int b0), .val (.int b1), .val (.int b2), .val (.int (p2 >>> ((24 : Int32) &&& 31)).toInt8.toInt32), .val (.ref bb), .unset, .unset]) rfl k) ?_
          show own_Go p e below _ T7 (mkF m 80 #[.val (.int p1), .val (.int p2), .val (.int (3 : Int32)), .val (.int b0), .val (.int b1), .val (.int b2), .val (.int (p2 >>> ((24 : Int32) &&& 31)).toInt8.toInt32), .val (.ref bb), .unset, .unset] [])
          refine own_go (fun t k => XS.iloadN X7.here hx rfl (hb hby at_80) rfl k) ?_
          show own_Go p e below _ T7 (mkF m 81 #[.val (.int p1), .val (.int p2), .val (.int (3 : Int32)), .val (.int b0), .val (.int b1), .val (.int b2), .val (.int (p2 >>> ((24 : Int32) &&& 31)).toInt8.toInt32), .val (.ref bb), .unset, .unset] [(.int (3 : Int32))])
          refine own_go (fun t k => XS.iconst X7.here hx rfl (hb hby at_81) k) ?_
          show own_Go p e below _ T7 (mkF m 82 #[.val (.int p1), .val (.int p2), .val (.int (3 : Int32)), .val (.int b0), .val (.int b1), .val (.int b2), .val (.int (p2 >>> ((24 : Int32) &&& 31)).toInt8.toInt32), .val (.ref bb), .unset, .unset] [(.int (3 : Int32)), (.int (3 : Int32))])
          refine own_go (fun t k => XS.icmpNo X7.here hx rfl (hb hby at_82) rfl (XT.ii_lt_f (by decide)) k) ?_
          show own_Go p e below _ T7 (mkF m 85 #[.val (.int p1), .val (.int p2), .val (.int (3 : Int32)), .val (.int b0), .val (.int b1), .val (.int b2), .val (.int (p2 >>> ((24 : Int32) &&& 31)).toInt8.toInt32), .val (.ref bb), .unset, .unset] [])
          refine own_go (fun t k => XS.iloadN X7.here hx rfl (hb hby at_85) rfl k) ?_
          show own_Go p e below _ T7 (mkF m 86 #[.val (.int p1), .val (.int p2), .val (.int (3 : Int32)), .val (.int b0), .val (.int b1), .val (.int b2), .val (.int (p2 >>> ((24 : Int32) &&& 31)).toInt8.toInt32), .val (.ref bb), .unset, .unset] [(.int b0)])
          refine own_go (fun t k => XS.sipush X7.here hx rfl (hb hby at_86) k) ?_
          show own_Go p e below _ T7 (mkF m 89 #[.val (.int p1), .val (.int p2), .val (.int (3 : Int32)), .val (.int b0), .val (.int b1), .val (.int b2), .val (.int (p2 >>> ((24 : Int32) &&& 31)).toInt8.toInt32), .val (.ref bb), .unset, .unset] [(.int (255 : Int32)), (.int b0)])
          refine own_go (fun t k => XS.iand X7.here hx rfl (hb hby at_89) rfl k) ?_
          show own_Go p e below _ T7 (mkF m 90 #[.val (.int p1), .val (.int p2), .val (.int (3 : Int32)), .val (.int b0), .val (.int b1), .val (.int b2), .val (.int (p2 >>> ((24 : Int32) &&& 31)).toInt8.toInt32), .val (.ref bb), .unset, .unset] [(.int (b0 &&& (255 : Int32)))])
          refine own_go (fun t k => XS.sipush X7.here hx rfl (hb hby at_90) k) ?_
          show own_Go p e below _ T7 (mkF m 93 #[.val (.int p1), .val (.int p2), .val (.int (3 : Int32)), .val (.int b0), .val (.int b1), .val (.int b2), .val (.int (p2 >>> ((24 : Int32) &&& 31)).toInt8.toInt32), .val (.ref bb), .unset, .unset] [(.int (239 : Int32)), (.int (b0 &&& (255 : Int32)))])
          by_cases hc93 : (b0 &&& (255 : Int32)) = (239 : Int32)
          · show own_Go p e below _ T7 (mkF m 93 #[.val (.int p1), .val (.int p2), .val (.int (3 : Int32)), .val (.int b0), .val (.int b1), .val (.int b2), .val (.int (p2 >>> ((24 : Int32) &&& 31)).toInt8.toInt32), .val (.ref bb), .unset, .unset] [(.int (239 : Int32)), (.int (b0 &&& (255 : Int32)))])
            refine own_go (fun t k => XS.icmpNo X7.here hx rfl (hb hby at_93) rfl (XT.ii_ne_f hc93) k) ?_
            show own_Go p e below _ T7 (mkF m 96 #[.val (.int p1), .val (.int p2), .val (.int (3 : Int32)), .val (.int b0), .val (.int b1), .val (.int b2), .val (.int (p2 >>> ((24 : Int32) &&& 31)).toInt8.toInt32), .val (.ref bb), .unset, .unset] [])
            refine own_go (fun t k => XS.iload X7.here hx rfl (hb hby at_96) rfl k) ?_
            show own_Go p e below _ T7 (mkF m 98 #[.val (.int p1), .val (.int p2), .val (.int (3 : Int32)), .val (.int b0), .val (.int b1), .val (.int b2), .val (.int (p2 >>> ((24 : Int32) &&& 31)).toInt8.toInt32), .val (.ref bb), .unset, .unset] [(.int b1)])
            refine own_go (fun t k => XS.sipush X7.here hx rfl (hb hby at_98) k) ?_
            show own_Go p e below _ T7 (mkF m 101 #[.val (.int p1), .val (.int p2), .val (.int (3 : Int32)), .val (.int b0), .val (.int b1), .val (.int b2), .val (.int (p2 >>> ((24 : Int32) &&& 31)).toInt8.toInt32), .val (.ref bb), .unset, .unset] [(.int (255 : Int32)), (.int b1)])
            refine own_go (fun t k => XS.iand X7.here hx rfl (hb hby at_101) rfl k) ?_
            show own_Go p e below _ T7 (mkF m 102 #[.val (.int p1), .val (.int p2), .val (.int (3 : Int32)), .val (.int b0), .val (.int b1), .val (.int b2), .val (.int (p2 >>> ((24 : Int32) &&& 31)).toInt8.toInt32), .val (.ref bb), .unset, .unset] [(.int (b1 &&& (255 : Int32)))])
            refine own_go (fun t k => XS.sipush X7.here hx rfl (hb hby at_102) k) ?_
            show own_Go p e below _ T7 (mkF m 105 #[.val (.int p1), .val (.int p2), .val (.int (3 : Int32)), .val (.int b0), .val (.int b1), .val (.int b2), .val (.int (p2 >>> ((24 : Int32) &&& 31)).toInt8.toInt32), .val (.ref bb), .unset, .unset] [(.int (187 : Int32)), (.int (b1 &&& (255 : Int32)))])
            by_cases hc105 : (b1 &&& (255 : Int32)) = (187 : Int32)
            · show own_Go p e below _ T7 (mkF m 105 #[.val (.int p1), .val (.int p2), .val (.int (3 : Int32)), .val (.int b0), .val (.int b1), .val (.int b2), .val (.int (p2 >>> ((24 : Int32) &&& 31)).toInt8.toInt32), .val (.ref bb), .unset, .unset] [(.int (187 : Int32)), (.int (b1 &&& (255 : Int32)))])
              refine own_go (fun t k => XS.icmpNo X7.here hx rfl (hb hby at_105) rfl (XT.ii_ne_f hc105) k) ?_
              show own_Go p e below _ T7 (mkF m 108 #[.val (.int p1), .val (.int p2), .val (.int (3 : Int32)), .val (.int b0), .val (.int b1), .val (.int b2), .val (.int (p2 >>> ((24 : Int32) &&& 31)).toInt8.toInt32), .val (.ref bb), .unset, .unset] [])
              refine own_go (fun t k => XS.iload X7.here hx rfl (hb hby at_108) rfl k) ?_
              show own_Go p e below _ T7 (mkF m 110 #[.val (.int p1), .val (.int p2), .val (.int (3 : Int32)), .val (.int b0), .val (.int b1), .val (.int b2), .val (.int (p2 >>> ((24 : Int32) &&& 31)).toInt8.toInt32), .val (.ref bb), .unset, .unset] [(.int b2)])
              refine own_go (fun t k => XS.sipush X7.here hx rfl (hb hby at_110) k) ?_
              show own_Go p e below _ T7 (mkF m 113 #[.val (.int p1), .val (.int p2), .val (.int (3 : Int32)), .val (.int b0), .val (.int b1), .val (.int b2), .val (.int (p2 >>> ((24 : Int32) &&& 31)).toInt8.toInt32), .val (.ref bb), .unset, .unset] [(.int (255 : Int32)), (.int b2)])
              refine own_go (fun t k => XS.iand X7.here hx rfl (hb hby at_113) rfl k) ?_
              show own_Go p e below _ T7 (mkF m 114 #[.val (.int p1), .val (.int p2), .val (.int (3 : Int32)), .val (.int b0), .val (.int b1), .val (.int b2), .val (.int (p2 >>> ((24 : Int32) &&& 31)).toInt8.toInt32), .val (.ref bb), .unset, .unset] [(.int (b2 &&& (255 : Int32)))])
              refine own_go (fun t k => XS.sipush X7.here hx rfl (hb hby at_114) k) ?_
              show own_Go p e below _ T7 (mkF m 117 #[.val (.int p1), .val (.int p2), .val (.int (3 : Int32)), .val (.int b0), .val (.int b1), .val (.int b2), .val (.int (p2 >>> ((24 : Int32) &&& 31)).toInt8.toInt32), .val (.ref bb), .unset, .unset] [(.int (191 : Int32)), (.int (b2 &&& (255 : Int32)))])
              by_cases hc117 : (b2 &&& (255 : Int32)) = (191 : Int32)
              · show own_Go p e below _ T7 (mkF m 117 #[.val (.int p1), .val (.int p2), .val (.int (3 : Int32)), .val (.int b0), .val (.int b1), .val (.int b2), .val (.int (p2 >>> ((24 : Int32) &&& 31)).toInt8.toInt32), .val (.ref bb), .unset, .unset] [(.int (191 : Int32)), (.int (b2 &&& (255 : Int32)))])
                refine own_go (fun t k => XS.icmpNo X7.here hx rfl (hb hby at_117) rfl (XT.ii_ne_f hc117) k) ?_
                show own_Go p e below _ T7 (mkF m 120 #[.val (.int p1), .val (.int p2), .val (.int (3 : Int32)), .val (.int b0), .val (.int b1), .val (.int b2), .val (.int (p2 >>> ((24 : Int32) &&& 31)).toInt8.toInt32), .val (.ref bb), .unset, .unset] [])
                refine own_go (fun t k => XS.iconst X7.here hx rfl (hb hby at_120) k) ?_
                show own_Go p e below _ T7 (mkF m 121 #[.val (.int p1), .val (.int p2), .val (.int (3 : Int32)), .val (.int b0), .val (.int b1), .val (.int b2), .val (.int (p2 >>> ((24 : Int32) &&& 31)).toInt8.toInt32), .val (.ref bb), .unset, .unset] [(.int (1 : Int32))])
                refine own_go (fun t k => XS.goto X7.here hx rfl (pc0 := 121) (pc' := 125) rfl (hb hby at_121) (by decide) (by decide) k) ?_
                show own_Go p e below _ T7 (mkF m 125 #[.val (.int p1), .val (.int p2), .val (.int (3 : Int32)), .val (.int b0), .val (.int b1), .val (.int b2), .val (.int (p2 >>> ((24 : Int32) &&& 31)).toInt8.toInt32), .val (.ref bb), .unset, .unset] [(.int (1 : Int32))])
                refine own_go (fun t k => XS.istore X7.here hx rfl (hb hby at_125) rfl (l' := #[.val (.int p1), .val (.int p2), .val (.int (3 : Int32)), .val (.int b0), .val (.int b1), .val (.int b2), .val (.int (p2 >>> ((24 : Int32) &&& 31)).toInt8.toInt32), .val (.ref bb), .val (.int (1 : Int32)), .unset]) rfl k) ?_
                show own_Go p e below _ T7 (mkF m 127 #[.val (.int p1), .val (.int p2), .val (.int (3 : Int32)), .val (.int b0), .val (.int b1), .val (.int b2), .val (.int (p2 >>> ((24 : Int32) &&& 31)).toInt8.toInt32), .val (.ref bb), .val (.int (1 : Int32)), .unset] [])
                refine own_go (fun t k => XS.iload X7.here hx rfl (hb hby at_127) rfl k) ?_
                show own_Go p e below _ T7 (mkF m 129 #[.val (.int p1), .val (.int p2), .val (.int (3 : Int32)), .val (.int b0), .val (.int b1), .val (.int b2), .val (.int (p2 >>> ((24 : Int32) &&& 31)).toInt8.toInt32), .val (.ref bb), .val (.int (1 : Int32)), .unset] [(.int (1 : Int32))])
                refine own_go (fun t k => XS.ifNo X7.here hx rfl (hb hby at_129) rfl (XT.i0_eq_f (by decide)) k) ?_
                show own_Go p e below _ T7 (mkF m 132 #[.val (.int p1), .val (.int p2), .val (.int (3 : Int32)), .val (.int b0), .val (.int b1), .val (.int b2), .val (.int (p2 >>> ((24 : Int32) &&& 31)).toInt8.toInt32), .val (.ref bb), .val (.int (1 : Int32)), .unset] [])
                refine own_go (fun t k => XS.iconst X7.here hx rfl (hb hby at_132) k) ?_
                show own_Go p e below _ T7 (mkF m 133 #[.val (.int p1), .val (.int p2), .val (.int (3 : Int32)), .val (.int b0), .val (.int b1), .val (.int b2), .val (.int (p2 >>> ((24 : Int32) &&& 31)).toInt8.toInt32), .val (.ref bb), .val (.int (1 : Int32)), .unset] [(.int (3 : Int32))])
                refine own_go (fun t k => XS.goto X7.here hx rfl (pc0 := 133) (pc' := 137) rfl (hb hby at_133) (by decide) (by decide) k) ?_
                show own_Go p e below _ T7 (mkF m 137 #[.val (.int p1), .val (.int p2), .val (.int (3 : Int32)), .val (.int b0), .val (.int b1), .val (.int b2), .val (.int (p2 >>> ((24 : Int32) &&& 31)).toInt8.toInt32), .val (.ref bb), .val (.int (1 : Int32)), .unset] [(.int (3 : Int32))])
                refine own_go (fun t k => XS.istore X7.here hx rfl (hb hby at_137) rfl (l' := #[.val (.int p1), .val (.int p2), .val (.int (3 : Int32)), .val (.int b0), .val (.int b1), .val (.int b2), .val (.int (p2 >>> ((24 : Int32) &&& 31)).toInt8.toInt32), .val (.ref bb), .val (.int (1 : Int32)), .val (.int (3 : Int32))]) rfl k) ?_
                show own_Go p e below _ T7 (mkF m 139 #[.val (.int p1), .val (.int p2), .val (.int (3 : Int32)), .val (.int b0), .val (.int b1), .val (.int b2), .val (.int (p2 >>> ((24 : Int32) &&& 31)).toInt8.toInt32), .val (.ref bb), .val (.int (1 : Int32)), .val (.int (3 : Int32))] [])
                refine own_go (fun t k => XS.aload X7.here hx rfl (hb hby at_139) rfl rfl k) ?_
                show own_Go p e below _ T7 (mkF m 141 #[.val (.int p1), .val (.int p2), .val (.int (3 : Int32)), .val (.int b0), .val (.int b1), .val (.int b2), .val (.int (p2 >>> ((24 : Int32) &&& 31)).toInt8.toInt32), .val (.ref bb), .val (.int (1 : Int32)), .val (.int (3 : Int32))] [(.ref bb)])
                obtain ⟨_, T8, L8, X8, ⟨⟨rr, rfl, r3, r0⟩, N8, e8⟩, st8⟩ := own_callS X7 hx hZ (y := (⟨"com/example/tallygate/tallygate/codec/Utf8Text", "afterByteOrderMark", "([B)I"⟩ : MethodName)) (argsL := [(.ref bb)]) (rest := []) (Ls := #[.val (.int p1), .val (.int p2), .val (.int (3 : Int32)), .val (.int b0), .val (.int b1), .val (.int b2), .val (.int (p2 >>> ((24 : Int32) &&& 31)).toInt8.toInt32), .val (.ref bb), .val (.int (1 : Int32)), .val (.int (3 : Int32))]) hown (own_w hw 5 rfl) (own_w hw 6 rfl) (own_w hw 7 rfl) (own_w hw 8 rfl) (by decide) rfl (rm2_3 l Z a0 hw [] bb am kb km b0 b1 b2 T7.heap n0 (own_oldge old7) old7 S_BOM V_BOM Vb) 0 (by decide) (by decide) (by decide) (by decide) (by rw [hml]; rfl) (lenOf pd_2 rfl) rfl (Nat.le_of_eq rfl) (hb hby at_141)
                have M8 := Fr.app M7 N8
                obtain rfl : rr = 3 := r3 ⟨(own_m0 B0).mp hc93, (own_m1 B1).mp hc105, (own_m2 B2).mp hc117⟩
                refine own_go st8 ?_
                show own_Go p e below _ T8 (mkF m 144 #[.val (.int p1), .val (.int p2), .val (.int (3 : Int32)), .val (.int b0), .val (.int b1), .val (.int b2), .val (.int (p2 >>> ((24 : Int32) &&& 31)).toInt8.toInt32), .val (.ref bb), .val (.int (1 : Int32)), .val (.int (3 : Int32))] [(.int (3 : Int32))])
                refine own_go (fun t k => XS.iload X8.here hx rfl (hb hby at_144) rfl k) ?_
                show own_Go p e below _ T8 (mkF m 146 #[.val (.int p1), .val (.int p2), .val (.int (3 : Int32)), .val (.int b0), .val (.int b1), .val (.int b2), .val (.int (p2 >>> ((24 : Int32) &&& 31)).toInt8.toInt32), .val (.ref bb), .val (.int (1 : Int32)), .val (.int (3 : Int32))] [(.int (3 : Int32)), (.int (3 : Int32))])
                refine own_go (fun t k => XS.icmpNo X8.here hx rfl (hb hby at_146) rfl (XT.ii_ne_f (by decide)) k) ?_
                show own_Go p e below _ T8 (mkF m 149 #[.val (.int p1), .val (.int p2), .val (.int (3 : Int32)), .val (.int b0), .val (.int b1), .val (.int b2), .val (.int (p2 >>> ((24 : Int32) &&& 31)).toInt8.toInt32), .val (.ref bb), .val (.int (1 : Int32)), .val (.int (3 : Int32))] [])
                refine own_go (fun t k => XS.iconst X8.here hx rfl (hb hby at_149) k) ?_
                show own_Go p e below _ T8 (mkF m 150 #[.val (.int p1), .val (.int p2), .val (.int (3 : Int32)), .val (.int b0), .val (.int b1), .val (.int b2), .val (.int (p2 >>> ((24 : Int32) &&& 31)).toInt8.toInt32), .val (.ref bb), .val (.int (1 : Int32)), .val (.int (3 : Int32))] [(.int (1 : Int32))])
                refine own_go (fun t k => XS.goto X8.here hx rfl (pc0 := 150) (pc' := 154) rfl (hb hby at_150) (by decide) (by decide) k) ?_
                show own_Go p e below _ T8 (mkF m 154 #[.val (.int p1), .val (.int p2), .val (.int (3 : Int32)), .val (.int b0), .val (.int b1), .val (.int b2), .val (.int (p2 >>> ((24 : Int32) &&& 31)).toInt8.toInt32), .val (.ref bb), .val (.int (1 : Int32)), .val (.int (3 : Int32))] [(.int (1 : Int32))])
                refine own_retZ X8 hx hlk hret (hb hby at_154) (Or.inr rfl) (by decide) (by decide) ?_
                exact ⟨rfl, M8⟩
              · show own_Go p e below _ T7 (mkF m 117 #[.val (.int p1), .val (.int p2), .val (.int (3 : Int32)), .val (.int b0), .val (.int b1), .val (.int b2), .val (.int (p2 >>> ((24 : Int32) &&& 31)).toInt8.toInt32), .val (.ref bb), .unset, .unset] [(.int (191 : Int32)), (.int (b2 &&& (255 : Int32)))])
                refine own_go (fun t k => XS.icmpYes X7.here hx rfl (pc0 := 117) (pc' := 124) rfl (hb hby at_117) rfl (XT.ii_ne_t hc117) (by decide) (by decide) k) ?_
                show own_Go p e below _ T7 (mkF m 124 #[.val (.int p1), .val (.int p2), .val (.int (3 : Int32)), .val (.int b0), .val (.int b1), .val (.int b2), .val (.int (p2 >>> ((24 : Int32) &&& 31)).toInt8.toInt32), .val (.ref bb), .unset, .unset] [])
                refine own_go (fun t k => XS.iconst X7.here hx rfl (hb hby at_124) k) ?_
                show own_Go p e below _ T7 (mkF m 125 #[.val (.int p1), .val (.int p2), .val (.int (3 : Int32)), .val (.int b0), .val (.int b1), .val (.int b2), .val (.int (p2 >>> ((24 : Int32) &&& 31)).toInt8.toInt32), .val (.ref bb), .unset, .unset] [(.int (0 : Int32))])
                refine own_go (fun t k => XS.istore X7.here hx rfl (hb hby at_125) rfl (l' := #[.val (.int p1), .val (.int p2), .val (.int (3 : Int32)), .val (.int b0), .val (.int b1), .val (.int b2), .val (.int (p2 >>> ((24 : Int32) &&& 31)).toInt8.toInt32), .val (.ref bb), .val (.int (0 : Int32)), .unset]) rfl k) ?_
                show own_Go p e below _ T7 (mkF m 127 #[.val (.int p1), .val (.int p2), .val (.int (3 : Int32)), .val (.int b0), .val (.int b1), .val (.int b2), .val (.int (p2 >>> ((24 : Int32) &&& 31)).toInt8.toInt32), .val (.ref bb), .val (.int (0 : Int32)), .unset] [])
                refine own_go (fun t k => XS.iload X7.here hx rfl (hb hby at_127) rfl k) ?_
                show own_Go p e below _ T7 (mkF m 129 #[.val (.int p1), .val (.int p2), .val (.int (3 : Int32)), .val (.int b0), .val (.int b1), .val (.int b2), .val (.int (p2 >>> ((24 : Int32) &&& 31)).toInt8.toInt32), .val (.ref bb), .val (.int (0 : Int32)), .unset] [(.int (0 : Int32))])
                refine own_go (fun t k => XS.ifYes X7.here hx rfl (pc0 := 129) (pc' := 136) rfl (hb hby at_129) rfl (XT.i0_eq_t (by decide)) (by decide) (by decide) k) ?_
                show own_Go p e below _ T7 (mkF m 136 #[.val (.int p1), .val (.int p2), .val (.int (3 : Int32)), .val (.int b0), .val (.int b1), .val (.int b2), .val (.int (p2 >>> ((24 : Int32) &&& 31)).toInt8.toInt32), .val (.ref bb), .val (.int (0 : Int32)), .unset] [])
                refine own_go (fun t k => XS.iconst X7.here hx rfl (hb hby at_136) k) ?_
                show own_Go p e below _ T7 (mkF m 137 #[.val (.int p1), .val (.int p2), .val (.int (3 : Int32)), .val (.int b0), .val (.int b1), .val (.int b2), .val (.int (p2 >>> ((24 : Int32) &&& 31)).toInt8.toInt32), .val (.ref bb), .val (.int (0 : Int32)), .unset] [(.int (0 : Int32))])
                refine own_go (fun t k => XS.istore X7.here hx rfl (hb hby at_137) rfl (l' := #[.val (.int p1), .val (.int p2), .val (.int (3 : Int32)), .val (.int b0), .val (.int b1), .val (.int b2), .val (.int (p2 >>> ((24 : Int32) &&& 31)).toInt8.toInt32), .val (.ref bb), .val (.int (0 : Int32)), .val (.int (0 : Int32))]) rfl k) ?_
                show own_Go p e below _ T7 (mkF m 139 #[.val (.int p1), .val (.int p2), .val (.int (3 : Int32)), .val (.int b0), .val (.int b1), .val (.int b2), .val (.int (p2 >>> ((24 : Int32) &&& 31)).toInt8.toInt32), .val (.ref bb), .val (.int (0 : Int32)), .val (.int (0 : Int32))] [])
                refine own_go (fun t k => XS.aload X7.here hx rfl (hb hby at_139) rfl rfl k) ?_
                show own_Go p e below _ T7 (mkF m 141 #[.val (.int p1), .val (.int p2), .val (.int (3 : Int32)), .val (.int b0), .val (.int b1), .val (.int b2), .val (.int (p2 >>> ((24 : Int32) &&& 31)).toInt8.toInt32), .val (.ref bb), .val (.int (0 : Int32)), .val (.int (0 : Int32))] [(.ref bb)])
                obtain ⟨_, T9, L9, X9, ⟨⟨rr, rfl, r3, r0⟩, N9, e9⟩, st9⟩ := own_callS X7 hx hZ (y := (⟨"com/example/tallygate/tallygate/codec/Utf8Text", "afterByteOrderMark", "([B)I"⟩ : MethodName)) (argsL := [(.ref bb)]) (rest := []) (Ls := #[.val (.int p1), .val (.int p2), .val (.int (3 : Int32)), .val (.int b0), .val (.int b1), .val (.int b2), .val (.int (p2 >>> ((24 : Int32) &&& 31)).toInt8.toInt32), .val (.ref bb), .val (.int (0 : Int32)), .val (.int (0 : Int32))]) hown (own_w hw 5 rfl) (own_w hw 6 rfl) (own_w hw 7 rfl) (own_w hw 8 rfl) (by decide) rfl (rm2_3 l Z a0 hw [] bb am kb km b0 b1 b2 T7.heap n0 (own_oldge old7) old7 S_BOM V_BOM Vb) 0 (by decide) (by decide) (by decide) (by decide) (by rw [hml]; rfl) (lenOf pd_2 rfl) rfl (Nat.le_of_eq rfl) (hb hby at_141)
                have M9 := Fr.app M7 N9
                obtain rfl : rr = 0 := r0 (fun q => hc117 ((own_m2 B2).mpr q.2.2))
                refine own_go st9 ?_
                show own_Go p e below _ T9 (mkF m 144 #[.val (.int p1), .val (.int p2), .val (.int (3 : Int32)), .val (.int b0), .val (.int b1), .val (.int b2), .val (.int (p2 >>> ((24 : Int32) &&& 31)).toInt8.toInt32), .val (.ref bb), .val (.int (0 : Int32)), .val (.int (0 : Int32))] [(.int (0 : Int32))])
                refine own_go (fun t k => XS.iload X9.here hx rfl (hb hby at_144) rfl k) ?_
                show own_Go p e below _ T9 (mkF m 146 #[.val (.int p1), .val (.int p2), .val (.int (3 : Int32)), .val (.int b0), .val (.int b1), .val (.int b2), .val (.int (p2 >>> ((24 : Int32) &&& 31)).toInt8.toInt32), .val (.ref bb), .val (.int (0 : Int32)), .val (.int (0 : Int32))] [(.int (0 : Int32)), (.int (0 : Int32))])
                refine own_go (fun t k => XS.icmpNo X9.here hx rfl (hb hby at_146) rfl (XT.ii_ne_f (by decide)) k) ?_
                show own_Go p e below _ T9 (mkF m 149 #[.val (.int p1), .val (.int p2), .val (.int (3 : Int32)), .val (.int b0), .val (.int b1), .val (.int b2), .val (.int (p2 >>> ((24 : Int32) &&& 31)).toInt8.toInt32), .val (.ref bb), .val (.int (0 : Int32)), .val (.int (0 : Int32))] [])
                refine own_go (fun t k => XS.iconst X9.here hx rfl (hb hby at_149) k) ?_
                show own_Go p e below _ T9 (mkF m 150 #[.val (.int p1), .val (.int p2), .val (.int (3 : Int32)), .val (.int b0), .val (.int b1), .val (.int b2), .val (.int (p2 >>> ((24 : Int32) &&& 31)).toInt8.toInt32), .val (.ref bb), .val (.int (0 : Int32)), .val (.int (0 : Int32))] [(.int (1 : Int32))])
                refine own_go (fun t k => XS.goto X9.here hx rfl (pc0 := 150) (pc' := 154) rfl (hb hby at_150) (by decide) (by decide) k) ?_
                show own_Go p e below _ T9 (mkF m 154 #[.val (.int p1), .val (.int p2), .val (.int (3 : Int32)), .val (.int b0), .val (.int b1), .val (.int b2), .val (.int (p2 >>> ((24 : Int32) &&& 31)).toInt8.toInt32), .val (.ref bb), .val (.int (0 : Int32)), .val (.int (0 : Int32))] [(.int (1 : Int32))])
                refine own_retZ X9 hx hlk hret (hb hby at_154) (Or.inr rfl) (by decide) (by decide) ?_
                exact ⟨rfl, M9⟩
            · show own_Go p e below _ T7 (mkF m 105 #[.val (.int p1), .val (.int p2), .val (.int (3 : Int32)), .val (.int b0), .val (.int b1), .val (.int b2), .val (.int (p2 >>> ((24 : Int32) &&& 31)).toInt8.toInt32), .val (.ref bb), .unset, .unset] [(.int (187 : Int32)), (.int (b1 &&& (255 : Int32)))])
              refine own_go (fun t k => XS.icmpYes X7.here hx rfl (pc0 := 105) (pc' := 124) rfl (hb hby at_105) rfl (XT.ii_ne_t hc105) (by decide) (by decide) k) ?_
              show own_Go p e below _ T7 (mkF m 124 #[.val (.int p1), .val (.int p2), .val (.int (3 : Int32)), .val (.int b0), .val (.int b1), .val (.int b2), .val (.int (p2 >>> ((24 : Int32) &&& 31)).toInt8.toInt32), .val (.ref bb), .unset, .unset] [])
              refine own_go (fun t k => XS.iconst X7.here hx rfl (hb hby at_124) k) ?_
              show own_Go p e below _ T7 (mkF m 125 #[.val (.int p1), .val (.int p2), .val (.int (3 : Int32)), .val (.int b0), .val (.int b1), .val (.int b2), .val (.int (p2 >>> ((24 : Int32) &&& 31)).toInt8.toInt32), .val (.ref bb), .unset, .unset] [(.int (0 : Int32))])
              refine own_go (fun t k => XS.istore X7.here hx rfl (hb hby at_125) rfl (l' := #[.val (.int p1), .val (.int p2), .val (.int (3 : Int32)), .val (.int b0), .val (.int b1), .val (.int b2), .val (.int (p2 >>> ((24 : Int32) &&& 31)).toInt8.toInt32), .val (.ref bb), .val (.int (0 : Int32)), .unset]) rfl k) ?_
              show own_Go p e below _ T7 (mkF m 127 #[.val (.int p1), .val (.int p2), .val (.int (3 : Int32)), .val (.int b0), .val (.int b1), .val (.int b2), .val (.int (p2 >>> ((24 : Int32) &&& 31)).toInt8.toInt32), .val (.ref bb), .val (.int (0 : Int32)), .unset] [])
              refine own_go (fun t k => XS.iload X7.here hx rfl (hb hby at_127) rfl k) ?_
              show own_Go p e below _ T7 (mkF m 129 #[.val (.int p1), .val (.int p2), .val (.int (3 : Int32)), .val (.int b0), .val (.int b1), .val (.int b2), .val (.int (p2 >>> ((24 : Int32) &&& 31)).toInt8.toInt32), .val (.ref bb), .val (.int (0 : Int32)), .unset] [(.int (0 : Int32))])
              refine own_go (fun t k => XS.ifYes X7.here hx rfl (pc0 := 129) (pc' := 136) rfl (hb hby at_129) rfl (XT.i0_eq_t (by decide)) (by decide) (by decide) k) ?_
              show own_Go p e below _ T7 (mkF m 136 #[.val (.int p1), .val (.int p2), .val (.int (3 : Int32)), .val (.int b0), .val (.int b1), .val (.int b2), .val (.int (p2 >>> ((24 : Int32) &&& 31)).toInt8.toInt32), .val (.ref bb), .val (.int (0 : Int32)), .unset] [])
              refine own_go (fun t k => XS.iconst X7.here hx rfl (hb hby at_136) k) ?_
              show own_Go p e below _ T7 (mkF m 137 #[.val (.int p1), .val (.int p2), .val (.int (3 : Int32)), .val (.int b0), .val (.int b1), .val (.int b2), .val (.int (p2 >>> ((24 : Int32) &&& 31)).toInt8.toInt32), .val (.ref bb), .val (.int (0 : Int32)), .unset] [(.int (0 : Int32))])
              refine own_go (fun t k => XS.istore X7.here hx rfl (hb hby at_137) rfl (l' := #[.val (.int p1), .val (.int p2), .val (.int (3 : Int32)), .val (.int b0), .val (.int b1), .val (.int b2), .val (.int (p2 >>> ((24 : Int32) &&& 31)).toInt8.toInt32), .val (.ref bb), .val (.int (0 : Int32)), .val (.int (0 : Int32))]) rfl k) ?_
              show own_Go p e below _ T7 (mkF m 139 #[.val (.int p1), .val (.int p2), .val (.int (3 : Int32)), .val (.int b0), .val (.int b1), .val (.int b2), .val (.int (p2 >>> ((24 : Int32) &&& 31)).toInt8.toInt32), .val (.ref bb), .val (.int (0 : Int32)), .val (.int (0 : Int32))] [])
              refine own_go (fun t k => XS.aload X7.here hx rfl (hb hby at_139) rfl rfl k) ?_
              show own_Go p e below _ T7 (mkF m 141 #[.val (.int p1), .val (.int p2), .val (.int (3 : Int32)), .val (.int b0), .val (.int b1), .val (.int b2), .val (.int (p2 >>> ((24 : Int32) &&& 31)).toInt8.toInt32), .val (.ref bb), .val (.int (0 : Int32)), .val (.int (0 : Int32))] [(.ref bb)])
              obtain ⟨_, T10, L10, X10, ⟨⟨rr, rfl, r3, r0⟩, N10, e10⟩, st10⟩ := own_callS X7 hx hZ (y := (⟨"com/example/tallygate/tallygate/codec/Utf8Text", "afterByteOrderMark", "([B)I"⟩ : MethodName)) (argsL := [(.ref bb)]) (rest := []) (Ls := #[.val (.int p1), .val (.int p2), .val (.int (3 : Int32)), .val (.int b0), .val (.int b1), .val (.int b2), .val (.int (p2 >>> ((24 : Int32) &&& 31)).toInt8.toInt32), .val (.ref bb), .val (.int (0 : Int32)), .val (.int (0 : Int32))]) hown (own_w hw 5 rfl) (own_w hw 6 rfl) (own_w hw 7 rfl) (own_w hw 8 rfl) (by decide) rfl (rm2_3 l Z a0 hw [] bb am kb km b0 b1 b2 T7.heap n0 (own_oldge old7) old7 S_BOM V_BOM Vb) 0 (by decide) (by decide) (by decide) (by decide) (by rw [hml]; rfl) (lenOf pd_2 rfl) rfl (Nat.le_of_eq rfl) (hb hby at_141)
              have M10 := Fr.app M7 N10
              obtain rfl : rr = 0 := r0 (fun q => hc105 ((own_m1 B1).mpr q.2.1))
              refine own_go st10 ?_
              show own_Go p e below _ T10 (mkF m 144 #[.val (.int p1), .val (.int p2), .val (.int (3 : Int32)), .val (.int b0), .val (.int b1), .val (.int b2), .val (.int (p2 >>> ((24 : Int32) &&& 31)).toInt8.toInt32), .val (.ref bb), .val (.int (0 : Int32)), .val (.int (0 : Int32))] [(.int (0 : Int32))])
              refine own_go (fun t k => XS.iload X10.here hx rfl (hb hby at_144) rfl k) ?_
              show own_Go p e below _ T10 (mkF m 146 #[.val (.int p1), .val (.int p2), .val (.int (3 : Int32)), .val (.int b0), .val (.int b1), .val (.int b2), .val (.int (p2 >>> ((24 : Int32) &&& 31)).toInt8.toInt32), .val (.ref bb), .val (.int (0 : Int32)), .val (.int (0 : Int32))] [(.int (0 : Int32)), (.int (0 : Int32))])
              refine own_go (fun t k => XS.icmpNo X10.here hx rfl (hb hby at_146) rfl (XT.ii_ne_f (by decide)) k) ?_
              show own_Go p e below _ T10 (mkF m 149 #[.val (.int p1), .val (.int p2), .val (.int (3 : Int32)), .val (.int b0), .val (.int b1), .val (.int b2), .val (.int (p2 >>> ((24 : Int32) &&& 31)).toInt8.toInt32), .val (.ref bb), .val (.int (0 : Int32)), .val (.int (0 : Int32))] [])
              refine own_go (fun t k => XS.iconst X10.here hx rfl (hb hby at_149) k) ?_
              show own_Go p e below _ T10 (mkF m 150 #[.val (.int p1), .val (.int p2), .val (.int (3 : Int32)), .val (.int b0), .val (.int b1), .val (.int b2), .val (.int (p2 >>> ((24 : Int32) &&& 31)).toInt8.toInt32), .val (.ref bb), .val (.int (0 : Int32)), .val (.int (0 : Int32))] [(.int (1 : Int32))])
              refine own_go (fun t k => XS.goto X10.here hx rfl (pc0 := 150) (pc' := 154) rfl (hb hby at_150) (by decide) (by decide) k) ?_
              show own_Go p e below _ T10 (mkF m 154 #[.val (.int p1), .val (.int p2), .val (.int (3 : Int32)), .val (.int b0), .val (.int b1), .val (.int b2), .val (.int (p2 >>> ((24 : Int32) &&& 31)).toInt8.toInt32), .val (.ref bb), .val (.int (0 : Int32)), .val (.int (0 : Int32))] [(.int (1 : Int32))])
              refine own_retZ X10 hx hlk hret (hb hby at_154) (Or.inr rfl) (by decide) (by decide) ?_
              exact ⟨rfl, M10⟩
          · show own_Go p e below _ T7 (mkF m 93 #[.val (.int p1), .val (.int p2), .val (.int (3 : Int32)), .val (.int b0), .val (.int b1), .val (.int b2), .val (.int (p2 >>> ((24 : Int32) &&& 31)).toInt8.toInt32), .val (.ref bb), .unset, .unset] [(.int (239 : Int32)), (.int (b0 &&& (255 : Int32)))])
            refine own_go (fun t k => XS.icmpYes X7.here hx rfl (pc0 := 93) (pc' := 124) rfl (hb hby at_93) rfl (XT.ii_ne_t hc93) (by decide) (by decide) k) ?_
            show own_Go p e below _ T7 (mkF m 124 #[.val (.int p1), .val (.int p2), .val (.int (3 : Int32)), .val (.int b0), .val (.int b1), .val (.int b2), .val (.int (p2 >>> ((24 : Int32) &&& 31)).toInt8.toInt32), .val (.ref bb), .unset, .unset] [])
            refine own_go (fun t k => XS.iconst X7.here hx rfl (hb hby at_124) k) ?_
            show own_Go p e below _ T7 (mkF m 125 #[.val (.int p1), .val (.int p2), .val (.int (3 : Int32)), .val (.int b0), .val (.int b1), .val (.int b2), .val (.int (p2 >>> ((24 : Int32) &&& 31)).toInt8.toInt32), .val (.ref bb), .unset, .unset] [(.int (0 : Int32))])
            refine own_go (fun t k => XS.istore X7.here hx rfl (hb hby at_125) rfl (l' := #[.val (.int p1), .val (.int p2), .val (.int (3 : Int32)), .val (.int b0), .val (.int b1), .val (.int b2), .val (.int (p2 >>> ((24 : Int32) &&& 31)).toInt8.toInt32), .val (.ref bb), .val (.int (0 : Int32)), .unset]) rfl k) ?_
            show own_Go p e below _ T7 (mkF m 127 #[.val (.int p1), .val (.int p2), .val (.int (3 : Int32)), .val (.int b0), .val (.int b1), .val (.int b2), .val (.int (p2 >>> ((24 : Int32) &&& 31)).toInt8.toInt32), .val (.ref bb), .val (.int (0 : Int32)), .unset] [])
            refine own_go (fun t k => XS.iload X7.here hx rfl (hb hby at_127) rfl k) ?_
            show own_Go p e below _ T7 (mkF m 129 #[.val (.int p1), .val (.int p2), .val (.int (3 : Int32)), .val (.int b0), .val (.int b1), .val (.int b2), .val (.int (p2 >>> ((24 : Int32) &&& 31)).toInt8.toInt32), .val (.ref bb), .val (.int (0 : Int32)), .unset] [(.int (0 : Int32))])
            refine own_go (fun t k => XS.ifYes X7.here hx rfl (pc0 := 129) (pc' := 136) rfl (hb hby at_129) rfl (XT.i0_eq_t (by decide)) (by decide) (by decide) k) ?_
            show own_Go p e below _ T7 (mkF m 136 #[.val (.int p1), .val (.int p2), .val (.int (3 : Int32)), .val (.int b0), .val (.int b1), .val (.int b2), .val (.int (p2 >>> ((24 : Int32) &&& 31)).toInt8.toInt32), .val (.ref bb), .val (.int (0 : Int32)), .unset] [])
            refine own_go (fun t k => XS.iconst X7.here hx rfl (hb hby at_136) k) ?_
            show own_Go p e below _ T7 (mkF m 137 #[.val (.int p1), .val (.int p2), .val (.int (3 : Int32)), .val (.int b0), .val (.int b1), .val (.int b2), .val (.int (p2 >>> ((24 : Int32) &&& 31)).toInt8.toInt32), .val (.ref bb), .val (.int (0 : Int32)), .unset] [(.int (0 : Int32))])
            refine own_go (fun t k => XS.istore X7.here hx rfl (hb hby at_137) rfl (l' := #[.val (.int p1), .val (.int p2), .val (.int (3 : Int32)), .val (.int b0), .val (.int b1), .val (.int b2), .val (.int (p2 >>> ((24 : Int32) &&& 31)).toInt8.toInt32), .val (.ref bb), .val (.int (0 : Int32)), .val (.int (0 : Int32))]) rfl k) ?_
            show own_Go p e below _ T7 (mkF m 139 #[.val (.int p1), .val (.int p2), .val (.int (3 : Int32)), .val (.int b0), .val (.int b1), .val (.int b2), .val (.int (p2 >>> ((24 : Int32) &&& 31)).toInt8.toInt32), .val (.ref bb), .val (.int (0 : Int32)), .val (.int (0 : Int32))] [])
            refine own_go (fun t k => XS.aload X7.here hx rfl (hb hby at_139) rfl rfl k) ?_
            show own_Go p e below _ T7 (mkF m 141 #[.val (.int p1), .val (.int p2), .val (.int (3 : Int32)), .val (.int b0), .val (.int b1), .val (.int b2), .val (.int (p2 >>> ((24 : Int32) &&& 31)).toInt8.toInt32), .val (.ref bb), .val (.int (0 : Int32)), .val (.int (0 : Int32))] [(.ref bb)])
            obtain ⟨_, T11, L11, X11, ⟨⟨rr, rfl, r3, r0⟩, N11, e11⟩, st11⟩ := own_callS X7 hx hZ (y := (⟨"com/example/tallygate/tallygate/codec/Utf8Text", "afterByteOrderMark", "([B)I"⟩ : MethodName)) (argsL := [(.ref bb)]) (rest := []) (Ls := #[.val (.int p1), .val (.int p2), .val (.int (3 : Int32)), .val (.int b0), .val (.int b1), .val (.int b2), .val (.int (p2 >>> ((24 : Int32) &&& 31)).toInt8.toInt32), .val (.ref bb), .val (.int (0 : Int32)), .val (.int (0 : Int32))]) hown (own_w hw 5 rfl) (own_w hw 6 rfl) (own_w hw 7 rfl) (own_w hw 8 rfl) (by decide) rfl (rm2_3 l Z a0 hw [] bb am kb km b0 b1 b2 T7.heap n0 (own_oldge old7) old7 S_BOM V_BOM Vb) 0 (by decide) (by decide) (by decide) (by decide) (by rw [hml]; rfl) (lenOf pd_2 rfl) rfl (Nat.le_of_eq rfl) (hb hby at_141)
            have M11 := Fr.app M7 N11
            obtain rfl : rr = 0 := r0 (fun q => hc93 ((own_m0 B0).mpr q.1))
            refine own_go st11 ?_
            show own_Go p e below _ T11 (mkF m 144 #[.val (.int p1), .val (.int p2), .val (.int (3 : Int32)), .val (.int b0), .val (.int b1), .val (.int b2), .val (.int (p2 >>> ((24 : Int32) &&& 31)).toInt8.toInt32), .val (.ref bb), .val (.int (0 : Int32)), .val (.int (0 : Int32))] [(.int (0 : Int32))])
            refine own_go (fun t k => XS.iload X11.here hx rfl (hb hby at_144) rfl k) ?_
            show own_Go p e below _ T11 (mkF m 146 #[.val (.int p1), .val (.int p2), .val (.int (3 : Int32)), .val (.int b0), .val (.int b1), .val (.int b2), .val (.int (p2 >>> ((24 : Int32) &&& 31)).toInt8.toInt32), .val (.ref bb), .val (.int (0 : Int32)), .val (.int (0 : Int32))] [(.int (0 : Int32)), (.int (0 : Int32))])
            refine own_go (fun t k => XS.icmpNo X11.here hx rfl (hb hby at_146) rfl (XT.ii_ne_f (by decide)) k) ?_
            show own_Go p e below _ T11 (mkF m 149 #[.val (.int p1), .val (.int p2), .val (.int (3 : Int32)), .val (.int b0), .val (.int b1), .val (.int b2), .val (.int (p2 >>> ((24 : Int32) &&& 31)).toInt8.toInt32), .val (.ref bb), .val (.int (0 : Int32)), .val (.int (0 : Int32))] [])
            refine own_go (fun t k => XS.iconst X11.here hx rfl (hb hby at_149) k) ?_
            show own_Go p e below _ T11 (mkF m 150 #[.val (.int p1), .val (.int p2), .val (.int (3 : Int32)), .val (.int b0), .val (.int b1), .val (.int b2), .val (.int (p2 >>> ((24 : Int32) &&& 31)).toInt8.toInt32), .val (.ref bb), .val (.int (0 : Int32)), .val (.int (0 : Int32))] [(.int (1 : Int32))])
            refine own_go (fun t k => XS.goto X11.here hx rfl (pc0 := 150) (pc' := 154) rfl (hb hby at_150) (by decide) (by decide) k) ?_
            show own_Go p e below _ T11 (mkF m 154 #[.val (.int p1), .val (.int p2), .val (.int (3 : Int32)), .val (.int b0), .val (.int b1), .val (.int b2), .val (.int (p2 >>> ((24 : Int32) &&& 31)).toInt8.toInt32), .val (.ref bb), .val (.int (0 : Int32)), .val (.int (0 : Int32))] [(.int (1 : Int32))])
            refine own_retZ X11 hx hlk hret (hb hby at_154) (Or.inr rfl) (by decide) (by decide) ?_
            exact ⟨rfl, M11⟩
        · show own_Go p e below _ T0 (mkF m 75 #[.val (.int p1), .val (.int p2), .val (.int (4 : Int32)), .val (.int b0), .val (.int b1), .val (.int b2), .val (.int (p2 >>> ((24 : Int32) &&& 31)).toInt8.toInt32), .unset, .unset, .unset] [(.int (p2 >>> ((24 : Int32) &&& 31)).toInt8.toInt32), (.int b2), (.int b1), (.int b0), (.int (4 : Int32))])
          obtain ⟨_, T12, L12, X12, ⟨⟨bb, kb, rfl, ge_bb, old12, Vb⟩, N12⟩, st12⟩ := own_callS X0 hx hZ (y := (⟨"com/example/tallygate/tallygate/codec/Utf8TextAfterByteOrderMarkPinLaw", "pick", "(IBBBB)[B"⟩ : MethodName)) (argsL := [(.int (4 : Int32)), (.int b0), (.int b1), (.int b2), (.int (p2 >>> ((24 : Int32) &&& 31)).toInt8.toInt32)]) (rest := []) (Ls := #[.val (.int p1), .val (.int p2), .val (.int (4 : Int32)), .val (.int b0), .val (.int b1), .val (.int b2), .val (.int (p2 >>> ((24 : Int32) &&& 31)).toInt8.toInt32), .unset, .unset, .unset]) hown (own_w hw 0 rfl) (own_w hw 1 rfl) (own_w hw 2 rfl) (own_w hw 3 rfl) (by decide) e0 (rm1_4 l Z a0 hw [] b0 b1 b2 (p2 >>> ((24 : Int32) &&& 31)).toInt8.toInt32 h0 n0 Z0 O0 B0 B1 B2 (own_b8 _)) 0 (by decide) (by decide) (by decide) (by decide) (by rw [hml]; rfl) (lenOf pd_0 rfl) rfl (Nat.le_of_eq rfl) (hb hby at_75)
          have M12 := Fr.app N0 N12
          refine own_go st12 ?_
          show own_Go p e below _ T12 (mkF m 78 #[.val (.int p1), .val (.int p2), .val (.int (4 : Int32)), .val (.int b0), .val (.int b1), .val (.int b2), .val (.int (p2 >>> ((24 : Int32) &&& 31)).toInt8.toInt32), .unset, .unset, .unset] [(.ref bb)])
          refine own_go (fun t k => XS.astore X12.here hx rfl (hb hby at_78) rfl rfl (l' := #[.val (.int p1), .val (.int p2), .val (.int (4 : Int32)), .val (.int b0), .val (.int b1), .val (.int b2), .val (.int (p2 >>> ((24 : Int32) &&& 31)).toInt8.toInt32), .val (.ref bb), .unset, .unset]) rfl k) ?_
          show own_Go p e below _ T12 (mkF m 80 #[.val (.int p1), .val (.int p2), .val (.int (4 : Int32)), .val (.int b0), .val (.int b1), .val (.int b2), .val (.int (p2 >>> ((24 : Int32) &&& 31)).toInt8.toInt32), .val (.ref bb), .unset, .unset] [])
          refine own_go (fun t k => XS.iloadN X12.here hx rfl (hb hby at_80) rfl k) ?_
          show own_Go p e below _ T12 (mkF m 81 #[.val (.int p1), .val (.int p2), .val (.int (4 : Int32)), .val (.int b0), .val (.int b1), .val (.int b2), .val (.int (p2 >>> ((24 : Int32) &&& 31)).toInt8.toInt32), .val (.ref bb), .unset, .unset] [(.int (4 : Int32))])
          refine own_go (fun t k => XS.iconst X12.here hx rfl (hb hby at_81) k) ?_
          show own_Go p e below _ T12 (mkF m 82 #[.val (.int p1), .val (.int p2), .val (.int (4 : Int32)), .val (.int b0), .val (.int b1), .val (.int b2), .val (.int (p2 >>> ((24 : Int32) &&& 31)).toInt8.toInt32), .val (.ref bb), .unset, .unset] [(.int (3 : Int32)), (.int (4 : Int32))])
          refine own_go (fun t k => XS.icmpNo X12.here hx rfl (hb hby at_82) rfl (XT.ii_lt_f (by decide)) k) ?_
          show own_Go p e below _ T12 (mkF m 85 #[.val (.int p1), .val (.int p2), .val (.int (4 : Int32)), .val (.int b0), .val (.int b1), .val (.int b2), .val (.int (p2 >>> ((24 : Int32) &&& 31)).toInt8.toInt32), .val (.ref bb), .unset, .unset] [])
          refine own_go (fun t k => XS.iloadN X12.here hx rfl (hb hby at_85) rfl k) ?_
          show own_Go p e below _ T12 (mkF m 86 #[.val (.int p1), .val (.int p2), .val (.int (4 : Int32)), .val (.int b0), .val (.int b1), .val (.int b2), .val (.int (p2 >>> ((24 : Int32) &&& 31)).toInt8.toInt32), .val (.ref bb), .unset, .unset] [(.int b0)])
          refine own_go (fun t k => XS.sipush X12.here hx rfl (hb hby at_86) k) ?_
          show own_Go p e below _ T12 (mkF m 89 #[.val (.int p1), .val (.int p2), .val (.int (4 : Int32)), .val (.int b0), .val (.int b1), .val (.int b2), .val (.int (p2 >>> ((24 : Int32) &&& 31)).toInt8.toInt32), .val (.ref bb), .unset, .unset] [(.int (255 : Int32)), (.int b0)])
          refine own_go (fun t k => XS.iand X12.here hx rfl (hb hby at_89) rfl k) ?_
          show own_Go p e below _ T12 (mkF m 90 #[.val (.int p1), .val (.int p2), .val (.int (4 : Int32)), .val (.int b0), .val (.int b1), .val (.int b2), .val (.int (p2 >>> ((24 : Int32) &&& 31)).toInt8.toInt32), .val (.ref bb), .unset, .unset] [(.int (b0 &&& (255 : Int32)))])
          refine own_go (fun t k => XS.sipush X12.here hx rfl (hb hby at_90) k) ?_
          show own_Go p e below _ T12 (mkF m 93 #[.val (.int p1), .val (.int p2), .val (.int (4 : Int32)), .val (.int b0), .val (.int b1), .val (.int b2), .val (.int (p2 >>> ((24 : Int32) &&& 31)).toInt8.toInt32), .val (.ref bb), .unset, .unset] [(.int (239 : Int32)), (.int (b0 &&& (255 : Int32)))])
          by_cases hc93 : (b0 &&& (255 : Int32)) = (239 : Int32)
          · show own_Go p e below _ T12 (mkF m 93 #[.val (.int p1), .val (.int p2), .val (.int (4 : Int32)), .val (.int b0), .val (.int b1), .val (.int b2), .val (.int (p2 >>> ((24 : Int32) &&& 31)).toInt8.toInt32), .val (.ref bb), .unset, .unset] [(.int (239 : Int32)), (.int (b0 &&& (255 : Int32)))])
            refine own_go (fun t k => XS.icmpNo X12.here hx rfl (hb hby at_93) rfl (XT.ii_ne_f hc93) k) ?_
            show own_Go p e below _ T12 (mkF m 96 #[.val (.int p1), .val (.int p2), .val (.int (4 : Int32)), .val (.int b0), .val (.int b1), .val (.int b2), .val (.int (p2 >>> ((24 : Int32) &&& 31)).toInt8.toInt32), .val (.ref bb), .unset, .unset] [])
            refine own_go (fun t k => XS.iload X12.here hx rfl (hb hby at_96) rfl k) ?_
            show own_Go p e below _ T12 (mkF m 98 #[.val (.int p1), .val (.int p2), .val (.int (4 : Int32)), .val (.int b0), .val (.int b1), .val (.int b2), .val (.int (p2 >>> ((24 : Int32) &&& 31)).toInt8.toInt32), .val (.ref bb), .unset, .unset] [(.int b1)])
            refine own_go (fun t k => XS.sipush X12.here hx rfl (hb hby at_98) k) ?_
            show own_Go p e below _ T12 (mkF m 101 #[.val (.int p1), .val (.int p2), .val (.int (4 : Int32)), .val (.int b0), .val (.int b1), .val (.int b2), .val (.int (p2 >>> ((24 : Int32) &&& 31)).toInt8.toInt32), .val (.ref bb), .unset, .unset] [(.int (255 : Int32)), (.int b1)])
            refine own_go (fun t k => XS.iand X12.here hx rfl (hb hby at_101) rfl k) ?_
            show own_Go p e below _ T12 (mkF m 102 #[.val (.int p1), .val (.int p2), .val (.int (4 : Int32)), .val (.int b0), .val (.int b1), .val (.int b2), .val (.int (p2 >>> ((24 : Int32) &&& 31)).toInt8.toInt32), .val (.ref bb), .unset, .unset] [(.int (b1 &&& (255 : Int32)))])
            refine own_go (fun t k => XS.sipush X12.here hx rfl (hb hby at_102) k) ?_
            show own_Go p e below _ T12 (mkF m 105 #[.val (.int p1), .val (.int p2), .val (.int (4 : Int32)), .val (.int b0), .val (.int b1), .val (.int b2), .val (.int (p2 >>> ((24 : Int32) &&& 31)).toInt8.toInt32), .val (.ref bb), .unset, .unset] [(.int (187 : Int32)), (.int (b1 &&& (255 : Int32)))])
            by_cases hc105 : (b1 &&& (255 : Int32)) = (187 : Int32)
            · show own_Go p e below _ T12 (mkF m 105 #[.val (.int p1), .val (.int p2), .val (.int (4 : Int32)), .val (.int b0), .val (.int b1), .val (.int b2), .val (.int (p2 >>> ((24 : Int32) &&& 31)).toInt8.toInt32), .val (.ref bb), .unset, .unset] [(.int (187 : Int32)), (.int (b1 &&& (255 : Int32)))])
              refine own_go (fun t k => XS.icmpNo X12.here hx rfl (hb hby at_105) rfl (XT.ii_ne_f hc105) k) ?_
              show own_Go p e below _ T12 (mkF m 108 #[.val (.int p1), .val (.int p2), .val (.int (4 : Int32)), .val (.int b0), .val (.int b1), .val (.int b2), .val (.int (p2 >>> ((24 : Int32) &&& 31)).toInt8.toInt32), .val (.ref bb), .unset, .unset] [])
              refine own_go (fun t k => XS.iload X12.here hx rfl (hb hby at_108) rfl k) ?_
              show own_Go p e below _ T12 (mkF m 110 #[.val (.int p1), .val (.int p2), .val (.int (4 : Int32)), .val (.int b0), .val (.int b1), .val (.int b2), .val (.int (p2 >>> ((24 : Int32) &&& 31)).toInt8.toInt32), .val (.ref bb), .unset, .unset] [(.int b2)])
              refine own_go (fun t k => XS.sipush X12.here hx rfl (hb hby at_110) k) ?_
              show own_Go p e below _ T12 (mkF m 113 #[.val (.int p1), .val (.int p2), .val (.int (4 : Int32)), .val (.int b0), .val (.int b1), .val (.int b2), .val (.int (p2 >>> ((24 : Int32) &&& 31)).toInt8.toInt32), .val (.ref bb), .unset, .unset] [(.int (255 : Int32)), (.int b2)])
              refine own_go (fun t k => XS.iand X12.here hx rfl (hb hby at_113) rfl k) ?_
              show own_Go p e below _ T12 (mkF m 114 #[.val (.int p1), .val (.int p2), .val (.int (4 : Int32)), .val (.int b0), .val (.int b1), .val (.int b2), .val (.int (p2 >>> ((24 : Int32) &&& 31)).toInt8.toInt32), .val (.ref bb), .unset, .unset] [(.int (b2 &&& (255 : Int32)))])
              refine own_go (fun t k => XS.sipush X12.here hx rfl (hb hby at_114) k) ?_
              show own_Go p e below _ T12 (mkF m 117 #[.val (.int p1), .val (.int p2), .val (.int (4 : Int32)), .val (.int b0), .val (.int b1), .val (.int b2), .val (.int (p2 >>> ((24 : Int32) &&& 31)).toInt8.toInt32), .val (.ref bb), .unset, .unset] [(.int (191 : Int32)), (.int (b2 &&& (255 : Int32)))])
              by_cases hc117 : (b2 &&& (255 : Int32)) = (191 : Int32)
              · show own_Go p e below _ T12 (mkF m 117 #[.val (.int p1), .val (.int p2), .val (.int (4 : Int32)), .val (.int b0), .val (.int b1), .val (.int b2), .val (.int (p2 >>> ((24 : Int32) &&& 31)).toInt8.toInt32), .val (.ref bb), .unset, .unset] [(.int (191 : Int32)), (.int (b2 &&& (255 : Int32)))])
                refine own_go (fun t k => XS.icmpNo X12.here hx rfl (hb hby at_117) rfl (XT.ii_ne_f hc117) k) ?_
                show own_Go p e below _ T12 (mkF m 120 #[.val (.int p1), .val (.int p2), .val (.int (4 : Int32)), .val (.int b0), .val (.int b1), .val (.int b2), .val (.int (p2 >>> ((24 : Int32) &&& 31)).toInt8.toInt32), .val (.ref bb), .unset, .unset] [])
                refine own_go (fun t k => XS.iconst X12.here hx rfl (hb hby at_120) k) ?_
                show own_Go p e below _ T12 (mkF m 121 #[.val (.int p1), .val (.int p2), .val (.int (4 : Int32)), .val (.int b0), .val (.int b1), .val (.int b2), .val (.int (p2 >>> ((24 : Int32) &&& 31)).toInt8.toInt32), .val (.ref bb), .unset, .unset] [(.int (1 : Int32))])
                refine own_go (fun t k => XS.goto X12.here hx rfl (pc0 := 121) (pc' := 125) rfl (hb hby at_121) (by decide) (by decide) k) ?_
                show own_Go p e below _ T12 (mkF m 125 #[.val (.int p1), .val (.int p2), .val (.int (4 : Int32)), .val (.int b0), .val (.int b1), .val (.int b2), .val (.int (p2 >>> ((24 : Int32) &&& 31)).toInt8.toInt32), .val (.ref bb), .unset, .unset] [(.int (1 : Int32))])
                refine own_go (fun t k => XS.istore X12.here hx rfl (hb hby at_125) rfl (l' := #[.val (.int p1), .val (.int p2), .val (.int (4 : Int32)), .val (.int b0), .val (.int b1), .val (.int b2), .val (.int (p2 >>> ((24 : Int32) &&& 31)).toInt8.toInt32), .val (.ref bb), .val (.int (1 : Int32)), .unset]) rfl k) ?_
                show own_Go p e below _ T12 (mkF m 127 #[.val (.int p1), .val (.int p2), .val (.int (4 : Int32)), .val (.int b0), .val (.int b1), .val (.int b2), .val (.int (p2 >>> ((24 : Int32) &&& 31)).toInt8.toInt32), .val (.ref bb), .val (.int (1 : Int32)), .unset] [])
                refine own_go (fun t k => XS.iload X12.here hx rfl (hb hby at_127) rfl k) ?_
                show own_Go p e below _ T12 (mkF m 129 #[.val (.int p1), .val (.int p2), .val (.int (4 : Int32)), .val (.int b0), .val (.int b1), .val (.int b2), .val (.int (p2 >>> ((24 : Int32) &&& 31)).toInt8.toInt32), .val (.ref bb), .val (.int (1 : Int32)), .unset] [(.int (1 : Int32))])
                refine own_go (fun t k => XS.ifNo X12.here hx rfl (hb hby at_129) rfl (XT.i0_eq_f (by decide)) k) ?_
                show own_Go p e below _ T12 (mkF m 132 #[.val (.int p1), .val (.int p2), .val (.int (4 : Int32)), .val (.int b0), .val (.int b1), .val (.int b2), .val (.int (p2 >>> ((24 : Int32) &&& 31)).toInt8.toInt32), .val (.ref bb), .val (.int (1 : Int32)), .unset] [])
                refine own_go (fun t k => XS.iconst X12.here hx rfl (hb hby at_132) k) ?_
                show own_Go p e below _ T12 (mkF m 133 #[.val (.int p1), .val (.int p2), .val (.int (4 : Int32)), .val (.int b0), .val (.int b1), .val (.int b2), .val (.int (p2 >>> ((24 : Int32) &&& 31)).toInt8.toInt32), .val (.ref bb), .val (.int (1 : Int32)), .unset] [(.int (3 : Int32))])
                refine own_go (fun t k => XS.goto X12.here hx rfl (pc0 := 133) (pc' := 137) rfl (hb hby at_133) (by decide) (by decide) k) ?_
                show own_Go p e below _ T12 (mkF m 137 #[.val (.int p1), .val (.int p2), .val (.int (4 : Int32)), .val (.int b0), .val (.int b1), .val (.int b2), .val (.int (p2 >>> ((24 : Int32) &&& 31)).toInt8.toInt32), .val (.ref bb), .val (.int (1 : Int32)), .unset] [(.int (3 : Int32))])
                refine own_go (fun t k => XS.istore X12.here hx rfl (hb hby at_137) rfl (l' := #[.val (.int p1), .val (.int p2), .val (.int (4 : Int32)), .val (.int b0), .val (.int b1), .val (.int b2), .val (.int (p2 >>> ((24 : Int32) &&& 31)).toInt8.toInt32), .val (.ref bb), .val (.int (1 : Int32)), .val (.int (3 : Int32))]) rfl k) ?_
                show own_Go p e below _ T12 (mkF m 139 #[.val (.int p1), .val (.int p2), .val (.int (4 : Int32)), .val (.int b0), .val (.int b1), .val (.int b2), .val (.int (p2 >>> ((24 : Int32) &&& 31)).toInt8.toInt32), .val (.ref bb), .val (.int (1 : Int32)), .val (.int (3 : Int32))] [])
                refine own_go (fun t k => XS.aload X12.here hx rfl (hb hby at_139) rfl rfl k) ?_
                show own_Go p e below _ T12 (mkF m 141 #[.val (.int p1), .val (.int p2), .val (.int (4 : Int32)), .val (.int b0), .val (.int b1), .val (.int b2), .val (.int (p2 >>> ((24 : Int32) &&& 31)).toInt8.toInt32), .val (.ref bb), .val (.int (1 : Int32)), .val (.int (3 : Int32))] [(.ref bb)])
                obtain ⟨_, T13, L13, X13, ⟨⟨rr, rfl, r3, r0⟩, N13, e13⟩, st13⟩ := own_callS X12 hx hZ (y := (⟨"com/example/tallygate/tallygate/codec/Utf8Text", "afterByteOrderMark", "([B)I"⟩ : MethodName)) (argsL := [(.ref bb)]) (rest := []) (Ls := #[.val (.int p1), .val (.int p2), .val (.int (4 : Int32)), .val (.int b0), .val (.int b1), .val (.int b2), .val (.int (p2 >>> ((24 : Int32) &&& 31)).toInt8.toInt32), .val (.ref bb), .val (.int (1 : Int32)), .val (.int (3 : Int32))]) hown (own_w hw 5 rfl) (own_w hw 6 rfl) (own_w hw 7 rfl) (own_w hw 8 rfl) (by decide) rfl (rm2_4 l Z a0 hw [] bb am kb km b0 b1 b2 (p2 >>> ((24 : Int32) &&& 31)).toInt8.toInt32 T12.heap n0 (own_oldge old12) old12 S_BOM V_BOM Vb) 0 (by decide) (by decide) (by decide) (by decide) (by rw [hml]; rfl) (lenOf pd_2 rfl) rfl (Nat.le_of_eq rfl) (hb hby at_141)
                have M13 := Fr.app M12 N13
                obtain rfl : rr = 3 := r3 ⟨(own_m0 B0).mp hc93, (own_m1 B1).mp hc105, (own_m2 B2).mp hc117⟩
                refine own_go st13 ?_
                show own_Go p e below _ T13 (mkF m 144 #[.val (.int p1), .val (.int p2), .val (.int (4 : Int32)), .val (.int b0), .val (.int b1), .val (.int b2), .val (.int (p2 >>> ((24 : Int32) &&& 31)).toInt8.toInt32), .val (.ref bb), .val (.int (1 : Int32)), .val (.int (3 : Int32))] [(.int (3 : Int32))])
                refine own_go (fun t k => XS.iload X13.here hx rfl (hb hby at_144) rfl k) ?_
                show own_Go p e below _ T13 (mkF m 146 #[.val (.int p1), .val (.int p2), .val (.int (4 : Int32)), .val (.int b0), .val (.int b1), .val (.int b2), .val (.int (p2 >>> ((24 : Int32) &&& 31)).toInt8.toInt32), .val (.ref bb), .val (.int (1 : Int32)), .val (.int (3 : Int32))] [(.int (3 : Int32)), (.int (3 : Int32))])
                refine own_go (fun t k => XS.icmpNo X13.here hx rfl (hb hby at_146) rfl (XT.ii_ne_f (by decide)) k) ?_
                show own_Go p e below _ T13 (mkF m 149 #[.val (.int p1), .val (.int p2), .val (.int (4 : Int32)), .val (.int b0), .val (.int b1), .val (.int b2), .val (.int (p2 >>> ((24 : Int32) &&& 31)).toInt8.toInt32), .val (.ref bb), .val (.int (1 : Int32)), .val (.int (3 : Int32))] [])
                refine own_go (fun t k => XS.iconst X13.here hx rfl (hb hby at_149) k) ?_
                show own_Go p e below _ T13 (mkF m 150 #[.val (.int p1), .val (.int p2), .val (.int (4 : Int32)), .val (.int b0), .val (.int b1), .val (.int b2), .val (.int (p2 >>> ((24 : Int32) &&& 31)).toInt8.toInt32), .val (.ref bb), .val (.int (1 : Int32)), .val (.int (3 : Int32))] [(.int (1 : Int32))])
                refine own_go (fun t k => XS.goto X13.here hx rfl (pc0 := 150) (pc' := 154) rfl (hb hby at_150) (by decide) (by decide) k) ?_
                show own_Go p e below _ T13 (mkF m 154 #[.val (.int p1), .val (.int p2), .val (.int (4 : Int32)), .val (.int b0), .val (.int b1), .val (.int b2), .val (.int (p2 >>> ((24 : Int32) &&& 31)).toInt8.toInt32), .val (.ref bb), .val (.int (1 : Int32)), .val (.int (3 : Int32))] [(.int (1 : Int32))])
                refine own_retZ X13 hx hlk hret (hb hby at_154) (Or.inr rfl) (by decide) (by decide) ?_
                exact ⟨rfl, M13⟩
              · show own_Go p e below _ T12 (mkF m 117 #[.val (.int p1), .val (.int p2), .val (.int (4 : Int32)), .val (.int b0), .val (.int b1), .val (.int b2), .val (.int (p2 >>> ((24 : Int32) &&& 31)).toInt8.toInt32), .val (.ref bb), .unset, .unset] [(.int (191 : Int32)), (.int (b2 &&& (255 : Int32)))])
                refine own_go (fun t k => XS.icmpYes X12.here hx rfl (pc0 := 117) (pc' := 124) rfl (hb hby at_117) rfl (XT.ii_ne_t hc117) (by decide) (by decide) k) ?_
                show own_Go p e below _ T12 (mkF m 124 #[.val (.int p1), .val (.int p2), .val (.int (4 : Int32)), .val (.int b0), .val (.int b1), .val (.int b2), .val (.int (p2 >>> ((24 : Int32) &&& 31)).toInt8.toInt32), .val (.ref bb), .unset, .unset] [])
                refine own_go (fun t k => XS.iconst X12.here hx rfl (hb hby at_124) k) ?_
                show own_Go p e below _ T12 (mkF m 125 #[.val (.int p1), .val (.int p2), .val (.int (4 : Int32)), .val (.int b0), .val (.int b1), .val (.int b2), .val (.int (p2 >>> ((24 : Int32) &&& 31)).toInt8.toInt32), .val (.ref bb), .unset, .unset] [(.int (0 : Int32))])
                refine own_go (fun t k => XS.istore X12.here hx rfl (hb hby at_125) rfl (l' := #[.val (.int p1), .val (.int p2), .val (.int (4 : Int32)), .val (.int b0), .val (.int b1), .val (.int b2), .val (.int (p2 >>> ((24 : Int32) &&& 31)).toInt8.toInt32), .val (.ref bb), .val (.int (0 : Int32)), .unset]) rfl k) ?_
                show own_Go p e below _ T12 (mkF m 127 #[.val (.int p1), .val (.int p2), .val (.int (4 : Int32)), .val (.int b0), .val (.int b1), .val (.int b2), .val (.int (p2 >>> ((24 : Int32) &&& 31)).toInt8.toInt32), .val (.ref bb), .val (.int (0 : Int32)), .unset] [])
                refine own_go (fun t k => XS.iload X12.here hx rfl (hb hby at_127) rfl k) ?_
                show own_Go p e below _ T12 (mkF m 129 #[.val (.int p1), .val (.int p2), .val (.int (4 : Int32)), .val (.int b0), .val (.int b1), .val (.int b2), .val (.int (p2 >>> ((24 : Int32) &&& 31)).toInt8.toInt32), .val (.ref bb), .val (.int (0 : Int32)), .unset] [(.int (0 : Int32))])
                refine own_go (fun t k => XS.ifYes X12.here hx rfl (pc0 := 129) (pc' := 136) rfl (hb hby at_129) rfl (XT.i0_eq_t (by decide)) (by decide) (by decide) k) ?_
                show own_Go p e below _ T12 (mkF m 136 #[.val (.int p1), .val (.int p2), .val (.int (4 : Int32)), .val (.int b0), .val (.int b1), .val (.int b2), .val (.int (p2 >>> ((24 : Int32) &&& 31)).toInt8.toInt32), .val (.ref bb), .val (.int (0 : Int32)), .unset] [])
                refine own_go (fun t k => XS.iconst X12.here hx rfl (hb hby at_136) k) ?_
                show own_Go p e below _ T12 (mkF m 137 #[.val (.int p1), .val (.int p2), .val (.int (4 : Int32)), .val (.int b0), .val (.int b1), .val (.int b2), .val (.int (p2 >>> ((24 : Int32) &&& 31)).toInt8.toInt32), .val (.ref bb), .val (.int (0 : Int32)), .unset] [(.int (0 : Int32))])
                refine own_go (fun t k => XS.istore X12.here hx rfl (hb hby at_137) rfl (l' := #[.val (.int p1), .val (.int p2), .val (.int (4 : Int32)), .val (.int b0), .val (.int b1), .val (.int b2), .val (.int (p2 >>> ((24 : Int32) &&& 31)).toInt8.toInt32), .val (.ref bb), .val (.int (0 : Int32)), .val (.int (0 : Int32))]) rfl k) ?_
                show own_Go p e below _ T12 (mkF m 139 #[.val (.int p1), .val (.int p2), .val (.int (4 : Int32)), .val (.int b0), .val (.int b1), .val (.int b2), .val (.int (p2 >>> ((24 : Int32) &&& 31)).toInt8.toInt32), .val (.ref bb), .val (.int (0 : Int32)), .val (.int (0 : Int32))] [])
                refine own_go (fun t k => XS.aload X12.here hx rfl (hb hby at_139) rfl rfl k) ?_
                show own_Go p e below _ T12 (mkF m 141 #[.val (.int p1), .val (.int p2), .val (.int (4 : Int32)), .val (.int b0), .val (.int b1), .val (.int b2), .val (.int (p2 >>> ((24 : Int32) &&& 31)).toInt8.toInt32), .val (.ref bb), .val (.int (0 : Int32)), .val (.int (0 : Int32))] [(.ref bb)])
                obtain ⟨_, T14, L14, X14, ⟨⟨rr, rfl, r3, r0⟩, N14, e14⟩, st14⟩ := own_callS X12 hx hZ (y := (⟨"com/example/tallygate/tallygate/codec/Utf8Text", "afterByteOrderMark", "([B)I"⟩ : MethodName)) (argsL := [(.ref bb)]) (rest := []) (Ls := #[.val (.int p1), .val (.int p2), .val (.int (4 : Int32)), .val (.int b0), .val (.int b1), .val (.int b2), .val (.int (p2 >>> ((24 : Int32) &&& 31)).toInt8.toInt32), .val (.ref bb), .val (.int (0 : Int32)), .val (.int (0 : Int32))]) hown (own_w hw 5 rfl) (own_w hw 6 rfl) (own_w hw 7 rfl) (own_w hw 8 rfl) (by decide) rfl (rm2_4 l Z a0 hw [] bb am kb km b0 b1 b2 (p2 >>> ((24 : Int32) &&& 31)).toInt8.toInt32 T12.heap n0 (own_oldge old12) old12 S_BOM V_BOM Vb) 0 (by decide) (by decide) (by decide) (by decide) (by rw [hml]; rfl) (lenOf pd_2 rfl) rfl (Nat.le_of_eq rfl) (hb hby at_141)
                have M14 := Fr.app M12 N14
                obtain rfl : rr = 0 := r0 (fun q => hc117 ((own_m2 B2).mpr q.2.2))
                refine own_go st14 ?_
                show own_Go p e below _ T14 (mkF m 144 #[.val (.int p1), .val (.int p2), .val (.int (4 : Int32)), .val (.int b0), .val (.int b1), .val (.int b2), .val (.int (p2 >>> ((24 : Int32) &&& 31)).toInt8.toInt32), .val (.ref bb), .val (.int (0 : Int32)), .val (.int (0 : Int32))] [(.int (0 : Int32))])
                refine own_go (fun t k => XS.iload X14.here hx rfl (hb hby at_144) rfl k) ?_
                show own_Go p e below _ T14 (mkF m 146 #[.val (.int p1), .val (.int p2), .val (.int (4 : Int32)), .val (.int b0), .val (.int b1), .val (.int b2), .val (.int (p2 >>> ((24 : Int32) &&& 31)).toInt8.toInt32), .val (.ref bb), .val (.int (0 : Int32)), .val (.int (0 : Int32))] [(.int (0 : Int32)), (.int (0 : Int32))])
                refine own_go (fun t k => XS.icmpNo X14.here hx rfl (hb hby at_146) rfl (XT.ii_ne_f (by decide)) k) ?_
                show own_Go p e below _ T14 (mkF m 149 #[.val (.int p1), .val (.int p2), .val (.int (4 : Int32)), .val (.int b0), .val (.int b1), .val (.int b2), .val (.int (p2 >>> ((24 : Int32) &&& 31)).toInt8.toInt32), .val (.ref bb), .val (.int (0 : Int32)), .val (.int (0 : Int32))] [])
                refine own_go (fun t k => XS.iconst X14.here hx rfl (hb hby at_149) k) ?_
                show own_Go p e below _ T14 (mkF m 150 #[.val (.int p1), .val (.int p2), .val (.int (4 : Int32)), .val (.int b0), .val (.int b1), .val (.int b2), .val (.int (p2 >>> ((24 : Int32) &&& 31)).toInt8.toInt32), .val (.ref bb), .val (.int (0 : Int32)), .val (.int (0 : Int32))] [(.int (1 : Int32))])
                refine own_go (fun t k => XS.goto X14.here hx rfl (pc0 := 150) (pc' := 154) rfl (hb hby at_150) (by decide) (by decide) k) ?_
                show own_Go p e below _ T14 (mkF m 154 #[.val (.int p1), .val (.int p2), .val (.int (4 : Int32)), .val (.int b0), .val (.int b1), .val (.int b2), .val (.int (p2 >>> ((24 : Int32) &&& 31)).toInt8.toInt32), .val (.ref bb), .val (.int (0 : Int32)), .val (.int (0 : Int32))] [(.int (1 : Int32))])
                refine own_retZ X14 hx hlk hret (hb hby at_154) (Or.inr rfl) (by decide) (by decide) ?_
                exact ⟨rfl, M14⟩
            · show own_Go p e below _ T12 (mkF m 105 #[.val (.int p1), .val (.int p2), .val (.int (4 : Int32)), .val (.int b0), .val (.int b1), .val (.int b2), .val (.int (p2 >>> ((24 : Int32) &&& 31)).toInt8.toInt32), .val (.ref bb), .unset, .unset] [(.int (187 : Int32)), (.int (b1 &&& (255 : Int32)))])
              refine own_go (fun t k => XS.icmpYes X12.here hx rfl (pc0 := 105) (pc' := 124) rfl (hb hby at_105) rfl (XT.ii_ne_t hc105) (by decide) (by decide) k) ?_
              show own_Go p e below _ T12 (mkF m 124 #[.val (.int p1), .val (.int p2), .val (.int (4 : Int32)), .val (.int b0), .val (.int b1), .val (.int b2), .val (.int (p2 >>> ((24 : Int32) &&& 31)).toInt8.toInt32), .val (.ref bb), .unset, .unset] [])
              refine own_go (fun t k => XS.iconst X12.here hx rfl (hb hby at_124) k) ?_
              show own_Go p e below _ T12 (mkF m 125 #[.val (.int p1), .val (.int p2), .val (.int (4 : Int32)), .val (.int b0), .val (.int b1), .val (.int b2), .val (.int (p2 >>> ((24 : Int32) &&& 31)).toInt8.toInt32), .val (.ref bb), .unset, .unset] [(.int (0 : Int32))])
              refine own_go (fun t k => XS.istore X12.here hx rfl (hb hby at_125) rfl (l' := #[.val (.int p1), .val (.int p2), .val (.int (4 : Int32)), .val (.int b0), .val (.int b1), .val (.int b2), .val (.int (p2 >>> ((24 : Int32) &&& 31)).toInt8.toInt32), .val (.ref bb), .val (.int (0 : Int32)), .unset]) rfl k) ?_
              show own_Go p e below _ T12 (mkF m 127 #[.val (.int p1), .val (.int p2), .val (.int (4 : Int32)), .val (.int b0), .val (.int b1), .val (.int b2), .val (.int (p2 >>> ((24 : Int32) &&& 31)).toInt8.toInt32), .val (.ref bb), .val (.int (0 : Int32)), .unset] [])
              refine own_go (fun t k => XS.iload X12.here hx rfl (hb hby at_127) rfl k) ?_
              show own_Go p e below _ T12 (mkF m 129 #[.val (.int p1), .val (.int p2), .val (.int (4 : Int32)), .val (.int b0), .val (.int b1), .val (.int b2), .val (.int (p2 >>> ((24 : Int32) &&& 31)).toInt8.toInt32), .val (.ref bb), .val (.int (0 : Int32)), .unset] [(.int (0 : Int32))])
              refine own_go (fun t k => XS.ifYes X12.here hx rfl (pc0 := 129) (pc' := 136) rfl (hb hby at_129) rfl (XT.i0_eq_t (by decide)) (by decide) (by decide) k) ?_
              show own_Go p e below _ T12 (mkF m 136 #[.val (.int p1), .val (.int p2), .val (.int (4 : Int32)), .val (.int b0), .val (.int b1), .val (.int b2), .val (.int (p2 >>> ((24 : Int32) &&& 31)).toInt8.toInt32), .val (.ref bb), .val (.int (0 : Int32)), .unset] [])
              refine own_go (fun t k => XS.iconst X12.here hx rfl (hb hby at_136) k) ?_
              show own_Go p e below _ T12 (mkF m 137 #[.val (.int p1), .val (.int p2), .val (.int (4 : Int32)), .val (.int b0), .val (.int b1), .val (.int b2), .val (.int (p2 >>> ((24 : Int32) &&& 31)).toInt8.toInt32), .val (.ref bb), .val (.int (0 : Int32)), .unset] [(.int (0 : Int32))])
              refine own_go (fun t k => XS.istore X12.here hx rfl (hb hby at_137) rfl (l' := #[.val (.int p1), .val (.int p2), .val (.int (4 : Int32)), .val (.int b0), .val (.int b1), .val (.int b2), .val (.int (p2 >>> ((24 : Int32) &&& 31)).toInt8.toInt32), .val (.ref bb), .val (.int (0 : Int32)), .val (.int (0 : Int32))]) rfl k) ?_
              show own_Go p e below _ T12 (mkF m 139 #[.val (.int p1), .val (.int p2), .val (.int (4 : Int32)), .val (.int b0), .val (.int b1), .val (.int b2), .val (.int (p2 >>> ((24 : Int32) &&& 31)).toInt8.toInt32), .val (.ref bb), .val (.int (0 : Int32)), .val (.int (0 : Int32))] [])
              refine own_go (fun t k => XS.aload X12.here hx rfl (hb hby at_139) rfl rfl k) ?_
              show own_Go p e below _ T12 (mkF m 141 #[.val (.int p1), .val (.int p2), .val (.int (4 : Int32)), .val (.int b0), .val (.int b1), .val (.int b2), .val (.int (p2 >>> ((24 : Int32) &&& 31)).toInt8.toInt32), .val (.ref bb), .val (.int (0 : Int32)), .val (.int (0 : Int32))] [(.ref bb)])
              obtain ⟨_, T15, L15, X15, ⟨⟨rr, rfl, r3, r0⟩, N15, e15⟩, st15⟩ := own_callS X12 hx hZ (y := (⟨"com/example/tallygate/tallygate/codec/Utf8Text", "afterByteOrderMark", "([B)I"⟩ : MethodName)) (argsL := [(.ref bb)]) (rest := []) (Ls := #[.val (.int p1), .val (.int p2), .val (.int (4 : Int32)), .val (.int b0), .val (.int b1), .val (.int b2), .val (.int (p2 >>> ((24 : Int32) &&& 31)).toInt8.toInt32), .val (.ref bb), .val (.int (0 : Int32)), .val (.int (0 : Int32))]) hown (own_w hw 5 rfl) (own_w hw 6 rfl) (own_w hw 7 rfl) (own_w hw 8 rfl) (by decide) rfl (rm2_4 l Z a0 hw [] bb am kb km b0 b1 b2 (p2 >>> ((24 : Int32) &&& 31)).toInt8.toInt32 T12.heap n0 (own_oldge old12) old12 S_BOM V_BOM Vb) 0 (by decide) (by decide) (by decide) (by decide) (by rw [hml]; rfl) (lenOf pd_2 rfl) rfl (Nat.le_of_eq rfl) (hb hby at_141)
              have M15 := Fr.app M12 N15
              obtain rfl : rr = 0 := r0 (fun q => hc105 ((own_m1 B1).mpr q.2.1))
              refine own_go st15 ?_
              show own_Go p e below _ T15 (mkF m 144 #[.val (.int p1), .val (.int p2), .val (.int (4 : Int32)), .val (.int b0), .val (.int b1), .val (.int b2), .val (.int (p2 >>> ((24 : Int32) &&& 31)).toInt8.toInt32), .val (.ref bb), .val (.int (0 : Int32)), .val (.int (0 : Int32))] [(.int (0 : Int32))])
              refine own_go (fun t k => XS.iload X15.here hx rfl (hb hby at_144) rfl k) ?_
              show own_Go p e below _ T15 (mkF m 146 #[.val (.int p1), .val (.int p2), .val (.int (4 : Int32)), .val (.int b0), .val (.int b1), .val (.int b2), .val (.int (p2 >>> ((24 : Int32) &&& 31)).toInt8.toInt32), .val (.ref bb), .val (.int (0 : Int32)), .val (.int (0 : Int32))] [(.int (0 : Int32)), (.int (0 : Int32))])
              refine own_go (fun t k => XS.icmpNo X15.here hx rfl (hb hby at_146) rfl (XT.ii_ne_f (by decide)) k) ?_
              show own_Go p e below _ T15 (mkF m 149 #[.val (.int p1), .val (.int p2), .val (.int (4 : Int32)), .val (.int b0), .val (.int b1), .val (.int b2), .val (.int (p2 >>> ((24 : Int32) &&& 31)).toInt8.toInt32), .val (.ref bb), .val (.int (0 : Int32)), .val (.int (0 : Int32))] [])
              refine own_go (fun t k => XS.iconst X15.here hx rfl (hb hby at_149) k) ?_
              show own_Go p e below _ T15 (mkF m 150 #[.val (.int p1), .val (.int p2), .val (.int (4 : Int32)), .val (.int b0), .val (.int b1), .val (.int b2), .val (.int (p2 >>> ((24 : Int32) &&& 31)).toInt8.toInt32), .val (.ref bb), .val (.int (0 : Int32)), .val (.int (0 : Int32))] [(.int (1 : Int32))])
              refine own_go (fun t k => XS.goto X15.here hx rfl (pc0 := 150) (pc' := 154) rfl (hb hby at_150) (by decide) (by decide) k) ?_
              show own_Go p e below _ T15 (mkF m 154 #[.val (.int p1), .val (.int p2), .val (.int (4 : Int32)), .val (.int b0), .val (.int b1), .val (.int b2), .val (.int (p2 >>> ((24 : Int32) &&& 31)).toInt8.toInt32), .val (.ref bb), .val (.int (0 : Int32)), .val (.int (0 : Int32))] [(.int (1 : Int32))])
              refine own_retZ X15 hx hlk hret (hb hby at_154) (Or.inr rfl) (by decide) (by decide) ?_
              exact ⟨rfl, M15⟩
          · show own_Go p e below _ T12 (mkF m 93 #[.val (.int p1), .val (.int p2), .val (.int (4 : Int32)), .val (.int b0), .val (.int b1), .val (.int b2), .val (.int (p2 >>> ((24 : Int32) &&& 31)).toInt8.toInt32), .val (.ref bb), .unset, .unset] [(.int (239 : Int32)), (.int (b0 &&& (255 : Int32)))])
            refine own_go (fun t k => XS.icmpYes X12.here hx rfl (pc0 := 93) (pc' := 124) rfl (hb hby at_93) rfl (XT.ii_ne_t hc93) (by decide) (by decide) k) ?_
            show own_Go p e below _ T12 (mkF m 124 #[.val (.int p1), .val (.int p2), .val (.int (4 : Int32)), .val (.int b0), .val (.int b1), .val (.int b2), .val (.int (p2 >>> ((24 : Int32) &&& 31)).toInt8.toInt32), .val (.ref bb), .unset, .unset] [])
            refine own_go (fun t k => XS.iconst X12.here hx rfl (hb hby at_124) k) ?_
            show own_Go p e below _ T12 (mkF m 125 #[.val (.int p1), .val (.int p2), .val (.int (4 : Int32)), .val (.int b0), .val (.int b1), .val (.int b2), .val (.int (p2 >>> ((24 : Int32) &&& 31)).toInt8.toInt32), .val (.ref bb), .unset, .unset] [(.int (0 : Int32))])
            refine own_go (fun t k => XS.istore X12.here hx rfl (hb hby at_125) rfl (l' := #[.val (.int p1), .val (.int p2), .val (.int (4 : Int32)), .val (.int b0), .val (.int b1), .val (.int b2), .val (.int (p2 >>> ((24 : Int32) &&& 31)).toInt8.toInt32), .val (.ref bb), .val (.int (0 : Int32)), .unset]) rfl k) ?_
            show own_Go p e below _ T12 (mkF m 127 #[.val (.int p1), .val (.int p2), .val (.int (4 : Int32)), .val (.int b0), .val (.int b1), .val (.int b2), .val (.int (p2 >>> ((24 : Int32) &&& 31)).toInt8.toInt32), .val (.ref bb), .val (.int (0 : Int32)), .unset] [])
            refine own_go (fun t k => XS.iload X12.here hx rfl (hb hby at_127) rfl k) ?_
            show own_Go p e below _ T12 (mkF m 129 #[.val (.int p1), .val (.int p2), .val (.int (4 : Int32)), .val (.int b0), .val (.int b1), .val (.int b2), .val (.int (p2 >>> ((24 : Int32) &&& 31)).toInt8.toInt32), .val (.ref bb), .val (.int (0 : Int32)), .unset] [(.int (0 : Int32))])
            refine own_go (fun t k => XS.ifYes X12.here hx rfl (pc0 := 129) (pc' := 136) rfl (hb hby at_129) rfl (XT.i0_eq_t (by decide)) (by decide) (by decide) k) ?_
            show own_Go p e below _ T12 (mkF m 136 #[.val (.int p1), .val (.int p2), .val (.int (4 : Int32)), .val (.int b0), .val (.int b1), .val (.int b2), .val (.int (p2 >>> ((24 : Int32) &&& 31)).toInt8.toInt32), .val (.ref bb), .val (.int (0 : Int32)), .unset] [])
            refine own_go (fun t k => XS.iconst X12.here hx rfl (hb hby at_136) k) ?_
            show own_Go p e below _ T12 (mkF m 137 #[.val (.int p1), .val (.int p2), .val (.int (4 : Int32)), .val (.int b0), .val (.int b1), .val (.int b2), .val (.int (p2 >>> ((24 : Int32) &&& 31)).toInt8.toInt32), .val (.ref bb), .val (.int (0 : Int32)), .unset] [(.int (0 : Int32))])
            refine own_go (fun t k => XS.istore X12.here hx rfl (hb hby at_137) rfl (l' := #[.val (.int p1), .val (.int p2), .val (.int (4 : Int32)), .val (.int b0), .val (.int b1), .val (.int b2), .val (.int (p2 >>> ((24 : Int32) &&& 31)).toInt8.toInt32), .val (.ref bb), .val (.int (0 : Int32)), .val (.int (0 : Int32))]) rfl k) ?_
            show own_Go p e below _ T12 (mkF m 139 #[.val (.int p1), .val (.int p2), .val (.int (4 : Int32)), .val (.int b0), .val (.int b1), .val (.int b2), .val (.int (p2 >>> ((24 : Int32) &&& 31)).toInt8.toInt32), .val (.ref bb), .val (.int (0 : Int32)), .val (.int (0 : Int32))] [])
            refine own_go (fun t k => XS.aload X12.here hx rfl (hb hby at_139) rfl rfl k) ?_
            show own_Go p e below _ T12 (mkF m 141 #[.val (.int p1), .val (.int p2), .val (.int (4 : Int32)), .val (.int b0), .val (.int b1), .val (.int b2), .val (.int (p2 >>> ((24 : Int32) &&& 31)).toInt8.toInt32), .val (.ref bb), .val (.int (0 : Int32)), .val (.int (0 : Int32))] [(.ref bb)])
            obtain ⟨_, T16, L16, X16, ⟨⟨rr, rfl, r3, r0⟩, N16, e16⟩, st16⟩ := own_callS X12 hx hZ (y := (⟨"com/example/tallygate/tallygate/codec/Utf8Text", "afterByteOrderMark", "([B)I"⟩ : MethodName)) (argsL := [(.ref bb)]) (rest := []) (Ls := #[.val (.int p1), .val (.int p2), .val (.int (4 : Int32)), .val (.int b0), .val (.int b1), .val (.int b2), .val (.int (p2 >>> ((24 : Int32) &&& 31)).toInt8.toInt32), .val (.ref bb), .val (.int (0 : Int32)), .val (.int (0 : Int32))]) hown (own_w hw 5 rfl) (own_w hw 6 rfl) (own_w hw 7 rfl) (own_w hw 8 rfl) (by decide) rfl (rm2_4 l Z a0 hw [] bb am kb km b0 b1 b2 (p2 >>> ((24 : Int32) &&& 31)).toInt8.toInt32 T12.heap n0 (own_oldge old12) old12 S_BOM V_BOM Vb) 0 (by decide) (by decide) (by decide) (by decide) (by rw [hml]; rfl) (lenOf pd_2 rfl) rfl (Nat.le_of_eq rfl) (hb hby at_141)
            have M16 := Fr.app M12 N16
            obtain rfl : rr = 0 := r0 (fun q => hc93 ((own_m0 B0).mpr q.1))
            refine own_go st16 ?_
            show own_Go p e below _ T16 (mkF m 144 #[.val (.int p1), .val (.int p2), .val (.int (4 : Int32)), .val (.int b0), .val (.int b1), .val (.int b2), .val (.int (p2 >>> ((24 : Int32) &&& 31)).toInt8.toInt32), .val (.ref bb), .val (.int (0 : Int32)), .val (.int (0 : Int32))] [(.int (0 : Int32))])
            refine own_go (fun t k => XS.iload X16.here hx rfl (hb hby at_144) rfl k) ?_
            show own_Go p e below _ T16 (mkF m 146 #[.val (.int p1), .val (.int p2), .val (.int (4 : Int32)), .val (.int b0), .val (.int b1), .val (.int b2), .val (.int (p2 >>> ((24 : Int32) &&& 31)).toInt8.toInt32), .val (.ref bb), .val (.int (0 : Int32)), .val (.int (0 : Int32))] [(.int (0 : Int32)), (.int (0 : Int32))])
            refine own_go (fun t k => XS.icmpNo X16.here hx rfl (hb hby at_146) rfl (XT.ii_ne_f (by decide)) k) ?_
            show own_Go p e below _ T16 (mkF m 149 #[.val (.int p1), .val (.int p2), .val (.int (4 : Int32)), .val (.int b0), .val (.int b1), .val (.int b2), .val (.int (p2 >>> ((24 : Int32) &&& 31)).toInt8.toInt32), .val (.ref bb), .val (.int (0 : Int32)), .val (.int (0 : Int32))] [])
            refine own_go (fun t k => XS.iconst X16.here hx rfl (hb hby at_149) k) ?_
            show own_Go p e below _ T16 (mkF m 150 #[.val (.int p1), .val (.int p2), .val (.int (4 : Int32)), .val (.int b0), .val (.int b1), .val (.int b2), .val (.int (p2 >>> ((24 : Int32) &&& 31)).toInt8.toInt32), .val (.ref bb), .val (.int (0 : Int32)), .val (.int (0 : Int32))] [(.int (1 : Int32))])
            refine own_go (fun t k => XS.goto X16.here hx rfl (pc0 := 150) (pc' := 154) rfl (hb hby at_150) (by decide) (by decide) k) ?_
            show own_Go p e below _ T16 (mkF m 154 #[.val (.int p1), .val (.int p2), .val (.int (4 : Int32)), .val (.int b0), .val (.int b1), .val (.int b2), .val (.int (p2 >>> ((24 : Int32) &&& 31)).toInt8.toInt32), .val (.ref bb), .val (.int (0 : Int32)), .val (.int (0 : Int32))] [(.int (1 : Int32))])
            refine own_retZ X16 hx hlk hret (hb hby at_154) (Or.inr rfl) (by decide) (by decide) ?_
            exact ⟨rfl, M16⟩
      by_cases hc45 : (p1 &&& (32 : Int32)) = 0
      · show own_Go p e below _ T0 (mkF m 45 #[.val (.int p1), .val (.int p2), .val (.int ln), .val (.int b0), .val (.int b1), .unset, .unset, .unset, .unset, .unset] [(.int (p1 &&& (32 : Int32)))])
        refine own_go (fun t k => XS.ifYes X0.here hx rfl (pc0 := 45) (pc' := 53) rfl (hb hby at_45) rfl (XT.i0_eq_t hc45) (by decide) (by decide) k) ?_
        show own_Go p e below _ T0 (mkF m 53 #[.val (.int p1), .val (.int p2), .val (.int ln), .val (.int b0), .val (.int b1), .unset, .unset, .unset, .unset, .unset] [])
        refine own_go (fun t k => XS.iloadN X0.here hx rfl (hb hby at_53) rfl k) ?_
        show own_Go p e below _ T0 (mkF m 54 #[.val (.int p1), .val (.int p2), .val (.int ln), .val (.int b0), .val (.int b1), .unset, .unset, .unset, .unset, .unset] [(.int p2)])
        refine own_go (fun t k => XS.bipush X0.here hx rfl (hb hby at_54) k) ?_
        show own_Go p e below _ T0 (mkF m 56 #[.val (.int p1), .val (.int p2), .val (.int ln), .val (.int b0), .val (.int b1), .unset, .unset, .unset, .unset, .unset] [(.int (16 : Int32)), (.int p2)])
        refine own_go (fun t k => XS.ishr X0.here hx rfl (hb hby at_56) rfl k) ?_
        show own_Go p e below _ T0 (mkF m 57 #[.val (.int p1), .val (.int p2), .val (.int ln), .val (.int b0), .val (.int b1), .unset, .unset, .unset, .unset, .unset] [(.int (p2 >>> ((16 : Int32) &&& 31)))])
        refine own_go (fun t k => XS.i2b X0.here hx rfl (hb hby at_57) rfl k) ?_
        show own_Go p e below _ T0 (mkF m 58 #[.val (.int p1), .val (.int p2), .val (.int ln), .val (.int b0), .val (.int b1), .unset, .unset, .unset, .unset, .unset] [(.int (p2 >>> ((16 : Int32) &&& 31)).toInt8.toInt32)])
        exact jn45 _ (fun _ => rfl) (fun q => absurd hc45 q)
      · show own_Go p e below _ T0 (mkF m 45 #[.val (.int p1), .val (.int p2), .val (.int ln), .val (.int b0), .val (.int b1), .unset, .unset, .unset, .unset, .unset] [(.int (p1 &&& (32 : Int32)))])
        refine own_go (fun t k => XS.ifNo X0.here hx rfl (hb hby at_45) rfl (XT.i0_eq_f hc45) k) ?_
        show own_Go p e below _ T0 (mkF m 48 #[.val (.int p1), .val (.int p2), .val (.int ln), .val (.int b0), .val (.int b1), .unset, .unset, .unset, .unset, .unset] [])
        refine own_go (fun t k => XS.bipush X0.here hx rfl (hb hby at_48) k) ?_
        show own_Go p e below _ T0 (mkF m 50 #[.val (.int p1), .val (.int p2), .val (.int ln), .val (.int b0), .val (.int b1), .unset, .unset, .unset, .unset, .unset] [(.int (-65 : Int32))])
        refine own_go (fun t k => XS.goto X0.here hx rfl (pc0 := 50) (pc' := 58) rfl (hb hby at_50) (by decide) (by decide) k) ?_
        show own_Go p e below _ T0 (mkF m 58 #[.val (.int p1), .val (.int p2), .val (.int ln), .val (.int b0), .val (.int b1), .unset, .unset, .unset, .unset, .unset] [(.int (-65 : Int32))])
        exact jn45 _ (fun q => absurd q hc45) (fun _ => rfl)
    by_cases hc26 : (p1 &&& (16 : Int32)) = 0
    · show own_Go p e below _ T0 (mkF m 26 #[.val (.int p1), .val (.int p2), .val (.int ln), .val (.int b0), .unset, .unset, .unset, .unset, .unset, .unset] [(.int (p1 &&& (16 : Int32)))])
      refine own_go (fun t k => XS.ifYes X0.here hx rfl (pc0 := 26) (pc' := 34) rfl (hb hby at_26) rfl (XT.i0_eq_t hc26) (by decide) (by decide) k) ?_
      show own_Go p e below _ T0 (mkF m 34 #[.val (.int p1), .val (.int p2), .val (.int ln), .val (.int b0), .unset, .unset, .unset, .unset, .unset, .unset] [])
      refine own_go (fun t k => XS.iloadN X0.here hx rfl (hb hby at_34) rfl k) ?_
      show own_Go p e below _ T0 (mkF m 35 #[.val (.int p1), .val (.int p2), .val (.int ln), .val (.int b0), .unset, .unset, .unset, .unset, .unset, .unset] [(.int p2)])
      refine own_go (fun t k => XS.bipush X0.here hx rfl (hb hby at_35) k) ?_
      show own_Go p e below _ T0 (mkF m 37 #[.val (.int p1), .val (.int p2), .val (.int ln), .val (.int b0), .unset, .unset, .unset, .unset, .unset, .unset] [(.int (8 : Int32)), (.int p2)])
      refine own_go (fun t k => XS.ishr X0.here hx rfl (hb hby at_37) rfl k) ?_
      show own_Go p e below _ T0 (mkF m 38 #[.val (.int p1), .val (.int p2), .val (.int ln), .val (.int b0), .unset, .unset, .unset, .unset, .unset, .unset] [(.int (p2 >>> ((8 : Int32) &&& 31)))])
      refine own_go (fun t k => XS.i2b X0.here hx rfl (hb hby at_38) rfl k) ?_
      show own_Go p e below _ T0 (mkF m 39 #[.val (.int p1), .val (.int p2), .val (.int ln), .val (.int b0), .unset, .unset, .unset, .unset, .unset, .unset] [(.int (p2 >>> ((8 : Int32) &&& 31)).toInt8.toInt32)])
      exact jn26 _ (fun _ => rfl) (fun q => absurd hc26 q)
    · show own_Go p e below _ T0 (mkF m 26 #[.val (.int p1), .val (.int p2), .val (.int ln), .val (.int b0), .unset, .unset, .unset, .unset, .unset, .unset] [(.int (p1 &&& (16 : Int32)))])
      refine own_go (fun t k => XS.ifNo X0.here hx rfl (hb hby at_26) rfl (XT.i0_eq_f hc26) k) ?_
      show own_Go p e below _ T0 (mkF m 29 #[.val (.int p1), .val (.int p2), .val (.int ln), .val (.int b0), .unset, .unset, .unset, .unset, .unset, .unset] [])
      refine own_go (fun t k => XS.bipush X0.here hx rfl (hb hby at_29) k) ?_
      show own_Go p e below _ T0 (mkF m 31 #[.val (.int p1), .val (.int p2), .val (.int ln), .val (.int b0), .unset, .unset, .unset, .unset, .unset, .unset] [(.int (-69 : Int32))])
      refine own_go (fun t k => XS.goto X0.here hx rfl (pc0 := 31) (pc' := 39) rfl (hb hby at_31) (by decide) (by decide) k) ?_
      show own_Go p e below _ T0 (mkF m 39 #[.val (.int p1), .val (.int p2), .val (.int ln), .val (.int b0), .unset, .unset, .unset, .unset, .unset, .unset] [(.int (-69 : Int32))])
      exact jn26 _ (fun q => absurd q hc26) (fun _ => rfl)
  by_cases hc11 : (p1 &&& (8 : Int32)) = 0
  · show own_Go p e below _ T0 (mkF m 11 #[.val (.int p1), .val (.int p2), .val (.int ln), .unset, .unset, .unset, .unset, .unset, .unset, .unset] [(.int (p1 &&& (8 : Int32)))])
    refine own_go (fun t k => XS.ifYes X0.here hx rfl (pc0 := 11) (pc' := 19) rfl (hb hby at_11) rfl (XT.i0_eq_t hc11) (by decide) (by decide) k) ?_
    show own_Go p e below _ T0 (mkF m 19 #[.val (.int p1), .val (.int p2), .val (.int ln), .unset, .unset, .unset, .unset, .unset, .unset, .unset] [])
    refine own_go (fun t k => XS.iloadN X0.here hx rfl (hb hby at_19) rfl k) ?_
    show own_Go p e below _ T0 (mkF m 20 #[.val (.int p1), .val (.int p2), .val (.int ln), .unset, .unset, .unset, .unset, .unset, .unset, .unset] [(.int p2)])
    refine own_go (fun t k => XS.i2b X0.here hx rfl (hb hby at_20) rfl k) ?_
    show own_Go p e below _ T0 (mkF m 21 #[.val (.int p1), .val (.int p2), .val (.int ln), .unset, .unset, .unset, .unset, .unset, .unset, .unset] [(.int p2.toInt8.toInt32)])
    exact jn11 _ (fun _ => rfl) (fun q => absurd hc11 q)
  · show own_Go p e below _ T0 (mkF m 11 #[.val (.int p1), .val (.int p2), .val (.int ln), .unset, .unset, .unset, .unset, .unset, .unset, .unset] [(.int (p1 &&& (8 : Int32)))])
    refine own_go (fun t k => XS.ifNo X0.here hx rfl (hb hby at_11) rfl (XT.i0_eq_f hc11) k) ?_
    show own_Go p e below _ T0 (mkF m 14 #[.val (.int p1), .val (.int p2), .val (.int ln), .unset, .unset, .unset, .unset, .unset, .unset, .unset] [])
    refine own_go (fun t k => XS.bipush X0.here hx rfl (hb hby at_14) k) ?_
    show own_Go p e below _ T0 (mkF m 16 #[.val (.int p1), .val (.int p2), .val (.int ln), .unset, .unset, .unset, .unset, .unset, .unset, .unset] [(.int (-17 : Int32))])
    refine own_go (fun t k => XS.goto X0.here hx rfl (pc0 := 16) (pc' := 21) rfl (hb hby at_16) (by decide) (by decide) k) ?_
    show own_Go p e below _ T0 (mkF m 21 #[.val (.int p1), .val (.int p2), .val (.int ln), .unset, .unset, .unset, .unset, .unset, .unset, .unset] [(.int (-17 : Int32))])
    exact jn11 _ (fun q => absurd q hc11) (fun _ => rfl)
set_option maxRecDepth 65536 in
set_option maxHeartbeats 40000000 in
theorem comes_1 {Post : Tables → Env → Array Value → State → Outcome → State → Prop} (hpost : ∀ tb e args s v u, (limb_1_1.after args s (.returned v) u = true ∧ limb_1_2.after args s (.returned v) u = true ∧ True) → FrameEnd s (.returned v) u (Jvm.fieldLocs frame_1_writes args s ++ Jvm.arrayLocs frame_1_arrays args s ++ Jvm.staticLocs frame_1_statics s) 16 128 → Post tb e args s (.returned v) u) :
    ArmFor flags0 classFile x code maxLocals ret World_1 tables_1 room_1 Calls_1 rest_1 Pre_1 Post := by
  intro l hfl _ _ p e ha hc hk s m args below hf hA hF happ hP
  obtain ⟨hcalls, hrest, hpre⟩ := hP
  obtain ⟨-, -, -, hnamed, -, -, -, hat⟩ := (Spec.applies_iff hf).mp happ
  obtain ⟨hg, hn⟩ := and_e (Cond.before_iff.mp (show (Jvm.Cond.and given_1 narrow_1).before args s = true from hpre))
  obtain ⟨g1, g2⟩ := and_e hg
  obtain ⟨g3, g4⟩ := and_e g2
  obtain ⟨w0, w1, rfl⟩ : ∃ w0 w1 : Value, args = #[w0, w1] := by
    have hs : args.size = 2 := by simpa [Cond.value, given_1] using g1
    obtain ⟨L⟩ := args
    match L, hs with
    | [w0, w1], _ => exact ⟨w0, w1, rfl⟩
  have hw := fun d (hd : d ∈ tables_1) => atoms_spec (ws := Jvm.Cond.code x code maxLocals ret :: tables_1) hat d (List.mem_cons_of_mem _ hd)
  have hfit : Fit s := fun {y c} hc i hi => by
    obtain ⟨ha, rfl⟩ := Array.getElem?_eq_some_iff.mp hc
    have q := List.all_eq_true.mp ((Array.all_eq_true_iff_forall_mem.mp hF) _ (Array.getElem_mem ha)) i (List.mem_range.mpr hi)
    simpa [Array.getElem?_eq_getElem hi] using q
  obtain ⟨i0, ei0⟩ := is_v g3
  obtain rfl : w0 = (.int i0) := Option.some.inj ei0
  obtain ⟨i1, ei1⟩ := is_v g4
  obtain rfl : w1 = (.int i1) := Option.some.inj ei1
  obtain ⟨nq0, nr0⟩ := and_e hn
  obtain ⟨nq1, nr1⟩ := and_e nr0
  obtain ⟨nq2, nr2⟩ := and_e nr1
  obtain ⟨nq3, nq4⟩ := and_e nr2
  obtain ⟨am, evm⟩ := arr_v nq0
  obtain ⟨cm, Am⟩ := Arr.start evm nq0
  have S_BOM := Sta.start evm (Or.inr ⟨(own_w hw 7 rfl), (own_w hw 10 rfl)⟩)
  obtain ⟨hl1, hl2⟩ := own_lenOf evm Am (own_eqI nq1)
  have V_BOM : Arv s s.heap am cm.cls .byte (3 : Int32) [(.int (-17 : Int32)), (.int (-69 : Int32)), (.int (-65 : Int32))] (.int 0) := Arv.start hfit Am hl1 hl2 (by decide) rfl ⟨(elem_in (own_eqI nq2) evm rfl Am.1).2, (elem_in (own_eqI nq3) evm rfl Am.1).2, (elem_in (own_eqI nq4) evm rfl Am.1).2, trivial⟩
  obtain ⟨n, o, h1, h2, h3, _, L, rfl, ⟨rfl, N⟩, hq⟩ := rm0 l s _ hw tables_1 i0 i1 am cm.cls s.heap s.heap.size (Nat.le_refl _) (Old.start s) S_BOM V_BOM p e ha hc hk s m _ below hf ((Spec.applies_iff_loose hf).mp happ).1 ⟨rfl, State.Warmed39.refl s, rfl⟩ trivial
  refine ⟨n, _, h1, h2, h3, hpost _ _ _ _ _ _ ⟨Cond.after_iff.mpr rfl, Cond.after_iff.mpr (eq_i res_at (Term.int_eval (1)) rfl), trivial⟩ ⟨hq.1, hq.2.1, (hq.2.2.sift fun y hy => Or.inr (N y hy)).mono (by decide) (by decide)⟩⟩
theorem main_1_1 : Claimed_1_1 := comes_1 fun _ _ _ _ _ _ h hF => ⟨h.1, hF⟩
theorem main_1_2 : Claimed_1_2 := comes_1 fun _ _ _ _ _ _ h hF => ⟨h.2.1, hF⟩
end Jvm.Pilot.@@N@@
namespace Jvm.Pilot.@@N@@
open Jvm Jvm.ClassFile Sem Op Lib Jvm.Free Jvm.Stand Jvm.Pilot.@@N@@.Jvm.D
/-! MADE BY PROGRAM (witnessworld.py) out of the Statement's table words and the real class files: 9 classes; the members and pool entries that the words name. The judged class is class 1, her method 2. -/
namespace start1
open Jvm.ClassFile
def u (s : String) : CpInfo := .utf8 (stringToUtf16 s)
/-- a pool by its gaps: so many unusable entries, then the entry; so many at the end -/
def gap : Nat → List CpInfo → List CpInfo
  | 0, r => r
  | n + 1, r => .unusable :: gap n r
def poolList (es : List (Nat × CpInfo)) (last : Nat) : List CpInfo := es.foldr (fun e r => gap e.1 (e.2 :: r)) (gap last [])
def pool (es : List (Nat × CpInfo)) (last : Nat) : Array CpInfo := ⟨poolList es last⟩
def fileOf (pool : Array CpInfo) (this : Nat) (attrs : Array Attribute := #[]) (ms : Array MethodInfo := #[]) (fl : Nat := 33) (sup : Nat := 0) (ifs : Array Nat := #[]) (fds : Array FieldInfo := #[]) : ClassFile where
  minorVersion := 0
  majorVersion := 65
  constantPool := pool
  accessFlags := fl
  thisClass := this
  superClass := sup
  interfaces := ifs
  fields := fds
  methods := ms
  attributes := attrs
def plain (name : String) (sup : Option ClassId) : Class where
  name := name
  kind := .ordinary
  loader := none
  accessFlags := 33
  super := sup
  interfaces := #[]
  cf := none
  fields := #[]
  methods := #[]
  instanceTypes := #[]
  staticTypes := #[]
  resolved := #[]
  callSites := []
  init := .initialized
  statics := none
  mirror := none

def pool0 : Array CpInfo := pool [(5, u "<init>"), (0, u "()V"), (1, .class_ 10), (1, u "java/lang/Object")] 113

def k0m0 : Method := { name := "<init>", desc := "()V", sig := { parameters := [], returnType := none }, accessFlags := 1, code := none }
/-- java/lang/Object -/
def k0 : Class := { plain "java/lang/Object" none with
  accessFlags := 33
  interfaces := #[]
  cf := some (fileOf pool0 8 #[] #[{ accessFlags := 1, nameIndex := 5, descriptorIndex := 6, attributes := #[] }] 33 0 #[] #[])
  fields := #[]
  methods := #[k0m0]
  instanceTypes := #[]
  staticTypes := #[]
  resolved := Array.replicate 124 none
  statics := none }

def pool1 : Array CpInfo := pool [(2, .class_ 4), (1, u "java/lang/Object"), (0, u "<init>"), (0, u "()V"), (0, .methodref 8 9), (0, .class_ 10), (0, .nameAndType 11 12), (0, u "com/example/tallygate/tallygate/codec/Utf8TextAfterByteOrderMarkPinLaw"), (0, u "pick"), (0, u "(IBBBB)[B"), (0, .methodref 14 15), (0, .class_ 16), (0, .nameAndType 17 18), (0, u "com/example/tallygate/tallygate/codec/Utf8Text"), (0, u "afterByteOrderMark"), (0, u "([B)I"), (3, u "law"), (0, u "(II)Z")] 4

def k1m0 : Method := { name := "<init>", desc := "()V", sig := { parameters := [], returnType := none }, accessFlags := 2, code := none }
def k1c1 : Code := { maxStack := 4, maxLocals := 5, code := method_2_code, exceptionTable := #[], attributes := #[] }
def k1m1 : Method := { name := "pick", desc := "(IBBBB)[B", sig := { parameters := [.int, .byte, .byte, .byte, .byte], returnType := some (.array .byte) }, accessFlags := 10, code := some k1c1 }
def k1c2 : Code := { maxStack := 5, maxLocals := 10, code := code, exceptionTable := #[], attributes := #[] }
def k1m2 : Method := { name := "law", desc := "(II)Z", sig := { parameters := [.int, .int], returnType := some .boolean }, accessFlags := 9, code := some k1c2 }
/-- com/example/tallygate/tallygate/codec/Utf8TextAfterByteOrderMarkPinLaw -/
def k1 : Class := { plain "com/example/tallygate/tallygate/codec/Utf8TextAfterByteOrderMarkPinLaw" (some 0) with
  accessFlags := 49
  interfaces := #[]
  cf := some (fileOf pool1 8 #[] #[{ accessFlags := 2, nameIndex := 5, descriptorIndex := 6, attributes := #[] }, { accessFlags := 10, nameIndex := 11, descriptorIndex := 12, attributes := #[] }, { accessFlags := 9, nameIndex := 22, descriptorIndex := 23, attributes := #[] }] 49 2 #[] #[])
  fields := #[]
  methods := #[k1m0, k1m1, k1m2]
  instanceTypes := #[]
  staticTypes := #[]
  resolved := Array.replicate 28 none
  statics := none }

def pool2 : Array CpInfo := pool [(2, .class_ 4), (1, u "java/lang/Object"), (0, u "<init>"), (0, u "()V"), (0, .fieldref 8 9), (0, .class_ 10), (0, .nameAndType 11 12), (0, u "com/example/tallygate/tallygate/codec/Utf8Text"), (0, u "BYTE_ORDER_MARK"), (0, u "[B"), (2, u "afterByteOrderMark"), (0, u "([B)I"), (52, u "LINE_END"), (0, u "Ljava/util/regex/Pattern;")] 31

def k2m0 : Method := { name := "<init>", desc := "()V", sig := { parameters := [], returnType := none }, accessFlags := 2, code := none }
def k2c1 : Code := { maxStack := 3, maxLocals := 3, code := prog_16_method_2_code, exceptionTable := #[], attributes := #[] }
def k2m1 : Method := { name := "afterByteOrderMark", desc := "([B)I", sig := { parameters := [(.array .byte)], returnType := some .int }, accessFlags := 8, code := some k2c1 }
/-- com/example/tallygate/tallygate/codec/Utf8Text -/
def k2 : Class := { plain "com/example/tallygate/tallygate/codec/Utf8Text" (some 0) with
  accessFlags := 32
  interfaces := #[]
  cf := some (fileOf pool2 8 #[] #[{ accessFlags := 2, nameIndex := 5, descriptorIndex := 6, attributes := #[] }, { accessFlags := 8, nameIndex := 15, descriptorIndex := 16, attributes := #[] }] 32 2 #[] #[{ accessFlags := 26, nameIndex := 11, descriptorIndex := 12, attributes := #[] }, { accessFlags := 26, nameIndex := 69, descriptorIndex := 70, attributes := #[] }])
  fields := #[{ name := "BYTE_ORDER_MARK", type := (.array .byte), accessFlags := 26, slot := 0, constantValue := 0 }, { name := "LINE_END", type := (.object "java/util/regex/Pattern"), accessFlags := 26, slot := 1, constantValue := 0 }]
  methods := #[k2m0, k2m1]
  instanceTypes := #[]
  staticTypes := #[(.array .byte), (.object "java/util/regex/Pattern")]
  resolved := Array.replicate 102 none
  statics := some 0 }

def pool3 : Array CpInfo := pool [(1, u "java/lang/Cloneable"), (0, .class_ 1), (0, u "java/lang/Object"), (0, .class_ 3)] 3

/-- java/lang/Cloneable -/
def k3 : Class := { plain "java/lang/Cloneable" (some 0) with
  accessFlags := 1537
  interfaces := #[]
  cf := some (fileOf pool3 2 #[] #[] 1537 4 #[] #[])
  fields := #[]
  methods := #[]
  instanceTypes := #[]
  staticTypes := #[]
  resolved := Array.replicate 8 none
  statics := none }

def pool4 : Array CpInfo := pool [(1, u "java/io/Serializable"), (0, .class_ 1), (0, u "java/lang/Object"), (0, .class_ 3)] 3

/-- java/io/Serializable -/
def k4 : Class := { plain "java/io/Serializable" (some 0) with
  accessFlags := 1537
  interfaces := #[]
  cf := some (fileOf pool4 2 #[] #[] 1537 4 #[] #[])
  fields := #[]
  methods := #[]
  instanceTypes := #[]
  staticTypes := #[]
  resolved := Array.replicate 8 none
  statics := none }

/-- the primitive byte -/
def k5 : Class := { plain "byte" none with kind := .primitive 'B', accessFlags := 0x411 }
/-- [B -/
def k6 : Class := { plain "[B" (some 0) with kind := .array 5 .byte, interfaces := #[3, 4], accessFlags := 1041 }

/-- the primitive int -/
def k7 : Class := { plain "int" none with kind := .primitive 'I', accessFlags := 0x411 }
/-- [I -/
def k8 : Class := { plain "[I" (some 0) with kind := .array 7 .int, interfaces := #[3, 4], accessFlags := 1041 }

def heap : Heap := #[{ cls := 2, slots := #[.ref 1, .null], vm := .statics 2 },
  { cls := 6, slots := #[.int (-17), .int (-69), .int (-65)], vm := .none }]
def classes : Array Class := #[k0, k1, k2, k3, k4, k5, k6, k7, k8]
def interned : List (Array UInt16 × Addr) := []
def slotsUsed : Nat := 5
def theMethod : MethodId := ⟨1, 2⟩
def args0 : Array Value := #[.int 5, .int 7]
def aboutOver (below : List Frame) : State where
  vm := { classes := classes, interned := interned.toArray }
  heap := heap
  slotsUsed := slotsUsed
  threads := #[{ frames := .invoking theMethod args0 :: below }]
def below0 : List Frame := [.native { method := ⟨0, 0⟩, args := #[] }]
def about1 : State := aboutOver below0
def p0 : Program := .bare "" "" ""
def e0 : Env := launch0.env 0 0 0
theorem w_frames : about1.frames = Frame.invoking theMethod args0 :: below0 := rfl
set_option maxRecDepth 65536 in
theorem w_args : argsFit about1.vm theMethod args0 = true := by decide +kernel
set_option maxRecDepth 65536 in
theorem w_heap : heapFits about1 = true := by decide +kernel
set_option maxRecDepth 65536 in
theorem w_runnable : about1.curStatus? = some .runnable := by decide +kernel
set_option maxRecDepth 65536 in
theorem w_alone : about1.alone = true := by decide +kernel
set_option maxRecDepth 65536 in
theorem w_named : about1.methodNamed? x = some theMethod := by decide +kernel
set_option maxRecDepth 65536 in
theorem w_hears : about1.hears theMethod below0 = true := by decide +kernel
set_option maxRecDepth 65536 in
theorem w_ripe : about1.ripe theMethod args0 below0 = true := by decide +kernel
theorem w_running : about1.status = .running := rfl
set_option maxRecDepth 65536 in
theorem w_room : about1.hasRoom e0.platform room_1 = true :=
  launch0.hasRoom_least _ room_1 (by decide +kernel) (by decide +kernel) (by decide +kernel) (by decide +kernel) (by decide +kernel) (by decide +kernel)
theorem allAtoms_all (ts : List Jvm.Cond) (a : Array Jvm.Value) (st : Jvm.State) : (allAtoms ts).before a st = ts.all (fun c => c.before a st) := by
  induction ts with
  | nil => rfl
  | cons c t ih =>
    show (Jvm.Cond.and c (allAtoms t)).before a st = _
    rw [Jvm.Cond.before_and, ih, List.all_cons]
def words1 : List Jvm.Cond := Jvm.Cond.code x code maxLocals ret :: tables_1
/-- a 'code' word, met by the world's own term for the bytes: nothing is compared byte by byte -/
theorem code_word {y : MethodName} {bytes : ByteArray} {mx : Nat} {rt : Option FieldType} {a : Array Value} {s : State} {m : MethodId} {meth : Method} {c : Code} (h1 : s.methodNamed? y = some m) (h2 : s.vm.method? m = some meth) (h3 : meth.code = some c) (h4 : c.code = bytes)
    (h5 : (c.maxLocals == mx && c.exceptionTable.isEmpty && decide (c.maxStack ≤ mostOperands) && decide (meth.sig.returnType = rt) && !meth.locks && decide (parseMethodDescriptor y.desc = some meth.sig)) = true) : (Jvm.Cond.code y bytes mx rt).before a s = true := by
  simp only [Bool.and_eq_true, beq_iff_eq, Bool.not_eq_true', decide_eq_true_eq] at h5
  obtain ⟨⟨⟨⟨⟨g1, g2⟩, g3⟩, g4⟩, g5⟩, g6⟩ := h5
  simp [Cond.before, Cond.holds, Cond.value, h1, h2, h3, h4, g1, g2, g3, g4, g5, g6]
def isCode : Jvm.Cond → Bool
  | .code _ _ _ _ => true
  | _ => false
theorem all_split {L : List Jvm.Cond} {P : Jvm.Cond → Bool} (h1 : L.all (fun c => isCode c || P c) = true) (h2 : ∀ c ∈ L.filter isCode, P c = true) : L.all P = true := by
  refine List.all_eq_true.mpr fun c hc => ?_
  have h := List.all_eq_true.mp h1 c hc
  rcases Bool.eq_false_or_eq_true (isCode c) with hi | hi
  · exact h2 c (List.mem_filter.mpr ⟨hc, hi⟩)
  · simpa [hi] using h
set_option maxRecDepth 65536 in
theorem w_c0 : (Jvm.Cond.code x code maxLocals ret).before args0 about1 = true := code_word (m := ⟨1, 2⟩) (meth := k1m2) (c := k1c2) (by decide +kernel) rfl rfl rfl (by decide +kernel)
set_option maxRecDepth 65536 in
theorem w_c1 : (Jvm.Cond.code ({ cls := "com/example/tallygate/tallygate/codec/Utf8TextAfterByteOrderMarkPinLaw", name := "pick", desc := "(IBBBB)[B" } : Jvm.MethodName) method_2_code (5 : Nat) (Option.some (Jvm.ClassFile.FieldType.array Jvm.ClassFile.FieldType.byte))).before args0 about1 = true := code_word (m := ⟨1, 1⟩) (meth := k1m1) (c := k1c1) (by decide +kernel) rfl rfl rfl (by decide +kernel)
set_option maxRecDepth 65536 in
theorem w_c2 : (Jvm.Cond.code ({ cls := "com/example/tallygate/tallygate/codec/Utf8Text", name := "afterByteOrderMark", desc := "([B)I" } : Jvm.MethodName) prog_16_method_2_code (3 : Nat) (Option.some Jvm.ClassFile.FieldType.int)).before args0 about1 = true := code_word (m := ⟨2, 1⟩) (meth := k2m1) (c := k2c1) (by decide +kernel) rfl rfl rfl (by decide +kernel)
def codes1 : List Jvm.Cond := [Jvm.Cond.code x code maxLocals ret, Jvm.Cond.code ({ cls := "com/example/tallygate/tallygate/codec/Utf8TextAfterByteOrderMarkPinLaw", name := "pick", desc := "(IBBBB)[B" } : Jvm.MethodName) method_2_code (5 : Nat) (Option.some (Jvm.ClassFile.FieldType.array Jvm.ClassFile.FieldType.byte)), Jvm.Cond.code ({ cls := "com/example/tallygate/tallygate/codec/Utf8Text", name := "afterByteOrderMark", desc := "([B)I" } : Jvm.MethodName) prog_16_method_2_code (3 : Nat) (Option.some Jvm.ClassFile.FieldType.int)]
set_option maxRecDepth 65536 in
theorem codes_eq : words1.filter isCode = codes1 := rfl
theorem w_codes : ∀ c ∈ words1.filter isCode, c.before args0 about1 = true := by
  rw [codes_eq]
  intro c hc
  simp only [codes1, List.mem_cons, List.not_mem_nil, or_false] at hc
  rcases hc with rfl | rfl | rfl
  · exact w_c0
  · exact w_c1
  · exact w_c2
set_option maxRecDepth 65536 in
theorem w_t1 : words1.all (fun c => isCode c || c.before args0 about1) = true := by decide +kernel
theorem w_tables : (allAtoms (Jvm.Cond.code x code maxLocals ret :: tables_1)).before args0 about1 = true := by
  rw [allAtoms_all]
  show words1.all (fun c => c.before args0 about1) = true
  refine all_split ?_ w_codes
  rw [w_t1]
set_option maxRecDepth 65536 in
theorem w_case : (Jvm.Cond.and given_1 narrow_1).before args0 about1 = true := by decide +kernel
theorem w_applies : (headSpec (Jvm.Cond.code x code maxLocals ret :: tables_1) room_1).applies x e0.platform about1 = true :=
  (Spec.applies_iff w_frames).mpr ⟨w_running, w_runnable, w_alone, w_named, w_hears, w_ripe, w_room, w_tables⟩
theorem atStart : AtStart classFile x code maxLocals ret World_1 tables_1 room_1 Calls_1 rest_1 Pre_1 launch0 p0 e0 about1 theMethod args0 below0 :=
  ⟨lists_1, trivial, launch0.admits_env _ _ _, launch0.least_env, fairChoices_fair.cas, fairChoices_fair.clock, w_frames, w_args, w_heap, w_applies, trivial, trivial, w_case⟩
end start1
theorem witness_1 : WitnessClaimed_1 := ⟨start1.p0, start1.e0, start1.about1, start1.theMethod, start1.args0, start1.below0, start1.atStart⟩
end Jvm.Pilot.@@N@@
