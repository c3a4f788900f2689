import JvmDerived
import JvmDerived.Pilot.@@N@@Statement
import JvmDerived.Pilot.@@N@@Code
set_option linter.unusedVariables false
set_option linter.unusedSimpArgs false
namespace Jvm.Pilot.@@N@@
open Jvm Jvm.ClassFile Sem Op Lib Jvm.Free Jvm.Stand Jvm.LawKit Jvm.RoadKit Bundle Jvm.Pilot.@@N@@.Jvm.D
section Own
variable {p : Program} {l : Launch} {e : Env} {R : Room} {s : State} {m : MethodId} {args : Array Value} {below : List Frame} {meth : Method} {c : Code} {T : State} {locs : List Loc} {cells slots : Nat} {Z : State} {a0 : Array Value} {K : State → Outcome → Prop} {pc pc' : Nat} {Ls : Array Slot} {st : List Value} {h : Heap}
/-- from here the run ends, and what is left is as K says -/
def own_Go (p : Program) (e : Env) (below : List Frame) (K : State → Outcome → Prop) (T : State) (f : JFrame) : Prop :=
  ∃ s₂ o, Steps p.tables e below (T.setTop f) s₂ ∧ s₂.status = .running ∧ Ended s₂ below o ∧ K s₂ o
def own_K (Q : Option Value → Heap → List Loc → Prop) (s : State) (cs ss : Nat) : State → Outcome → Prop := fun u o => ∃ v L, o = .returned v ∧ Q v u.heap L ∧ FrameEnd s o u L cs ss
theorem own_go {T' : State} {f f' : JFrame} (h : ∀ t, Steps p.tables e below (T'.setTop f') t → Steps p.tables e below (T.setTop f) t) (k : own_Go p e below K T' f') : own_Go p e below K T f := by
  obtain ⟨a, b, c, d⟩ := k
  exact ⟨a, b, h _ c, d⟩
theorem own_w {tb : List Jvm.Cond} (hw : ∀ d ∈ tb, d.before a0 Z = true) {d : Jvm.Cond} (k : Nat) (h : tb[k]? = some d) : d.before a0 Z = true := hw _ (List.mem_of_getElem? h)
/-- a method's contract: called with these arguments over this heap it returns, and Q says what it leaves -/
abbrev own_Met (l : Launch) (Z : State) (y : MethodName) (bytes : ByteArray) (mx : Nat) (rt : Option FieldType) (ws : List Jvm.Cond) (rm : Room) (as : Array Value) (h0 : Heap) (Q : Option Value → Heap → List Loc → Prop) : Prop :=
  MetFree l y (head1 (Jvm.Cond.code y bytes mx rt :: ws) rm) (fun a U => a = as ∧ Z.Warmed39 U.vm ∧ U.heap = h0) (fun _ _ _ _ _ => True) (fun _ U o U' => ∃ v L, o = .returned v ∧ Q v U'.heap L ∧ FrameEnd U o U' L rm.cells rm.slots)
theorem own_body {y : MethodName} {bytes : ByteArray} {mx : Nat} {rt : Option FieldType} {ws : List Jvm.Cond} {rm : Room} {as : Array Value} {h0 : Heap} {Q : Option Value → Heap → List Loc → Prop} (hp : plainFor y = true)
    (body : ∀ (p : Program) (e : Env) (s : State) (m : MethodId) (below : List Frame) (meth : Method) (c : Code) (T : State), Stand p l e rm s m as below meth c T [] 0 0 → p.tables.exec = Jvm.exec → c.code = bytes → c.maxLocals = mx → meth.sig.returnType = rt → meth.locks = false → Z.Warmed39 s.vm → s.vm.findClass y.cls = some m.cls → meth.name = y.name → T.heap = h0 →
      own_Go p e below (own_K Q s rm.cells rm.slots) T (entryFrame m as mx)) : own_Met l Z y bytes mx rt ws rm as h0 Q := by
  refine MetFree.of_bodySF hp hisR ?_
  intro p e s m args below meth c s₁ Bd hml0 hP hK
  obtain ⟨rfl, hZ, hh⟩ := hP
  exact body p e s m below meth c s₁ (Stand.of_body Bd) Bd.exec Bd.bytes hml0 Bd.returns Bd.notSynchronized hZ (findClass_of_methodNamed Bd.named) (name_of_methodNamed Bd.named Bd.method).1 (by rw [← hh, Bd.state]; rfl)
theorem own_ret (X : Stand p l e R s m args below meth c T locs cells slots) (hx : p.tables.exec = Jvm.exec) {Q : Option Value → Heap → List Loc → Prop} {cs ss : Nat} {w : Value} {t : FieldType} {i : Instr} {rest : List Value} (hlk : meth.locks = false) (hret : meth.sig.returnType = some t) (hd : decode c.code pc = .ok (i, 1)) (hn : narrow t w = w)
    (hi : (i = .ireturn ∧ (t = .int ∨ t = .boolean ∨ t = .byte ∨ t = .char ∨ t = .short) ∧ ∃ z, w = .int z) ∨ (i = .lreturn ∧ t = .long ∧ ∃ z, w = .long z) ∨ (i = .dreturn ∧ t = .double ∧ ∃ z, w = .double z) ∨ (i = .freturn ∧ t = .float ∧ ∃ z, w = .float z) ∨ (i = .areturn ∧ t.isReference = true ∧ w.isRef = true))
    (hc : cells ≤ cs) (hs : slots ≤ ss) (hq : Q (some w) T.heap locs) : own_Go p e below (own_K Q s cs ss) T (mkF m pc Ls (w :: rest)) := by
  obtain ⟨fs, hr, hrun, hended, hW, hsame⟩ := X.leave (v := some w) (fun h => by rw [hret] at h; cases h) hlk
  exact ⟨_, _, retOut X hx hret hn hi hd hr, hrun, hended, _, _, rfl, hq, ⟨_, rfl⟩, hW, hsame.mono hc hs⟩
theorem own_retI (X : Stand p l e R s m args below meth c T locs cells slots) (hx : p.tables.exec = Jvm.exec) {Q : Option Value → Heap → List Loc → Prop} {cs ss : Nat} {z : Int32} {rest : List Value} (hlk : meth.locks = false) (hret : meth.sig.returnType = some .int) (hd : decode c.code pc = .ok (.ireturn, 1)) (hc : cells ≤ cs) (hs : slots ≤ ss) (hq : Q (some (.int z)) T.heap locs) : own_Go p e below (own_K Q s cs ss) T (mkF m pc Ls (.int z :: rest)) :=
  own_ret X hx hlk hret hd rfl (Or.inl ⟨rfl, Or.inl rfl, z, rfl⟩) hc hs hq
theorem own_retZ (X : Stand p l e R s m args below meth c T locs cells slots) (hx : p.tables.exec = Jvm.exec) {Q : Option Value → Heap → List Loc → Prop} {cs ss : Nat} {z : Int32} {rest : List Value} (hlk : meth.locks = false) (hret : meth.sig.returnType = some .boolean) (hd : decode c.code pc = .ok (.ireturn, 1)) (hn : z = 0 ∨ z = 1) (hc : cells ≤ cs) (hs : slots ≤ ss) (hq : Q (some (.int z)) T.heap locs) : own_Go p e below (own_K Q s cs ss) T (mkF m pc Ls (.int z :: rest)) :=
  own_ret X hx hlk hret hd (by rcases hn with rfl | rfl <;> rfl) (Or.inl ⟨rfl, Or.inr (Or.inl rfl), z, rfl⟩) hc hs hq
theorem own_retJ (X : Stand p l e R s m args below meth c T locs cells slots) (hx : p.tables.exec = Jvm.exec) {Q : Option Value → Heap → List Loc → Prop} {cs ss : Nat} {z : Int64} {rest : List Value} (hlk : meth.locks = false) (hret : meth.sig.returnType = some .long) (hd : decode c.code pc = .ok (.lreturn, 1)) (hc : cells ≤ cs) (hs : slots ≤ ss) (hq : Q (some (.long z)) T.heap locs) : own_Go p e below (own_K Q s cs ss) T (mkF m pc Ls (.long z :: rest)) :=
  own_ret X hx hlk hret hd rfl (Or.inr (Or.inl ⟨rfl, rfl, z, rfl⟩)) hc hs hq
theorem own_retA (X : Stand p l e R s m args below meth c T locs cells slots) (hx : p.tables.exec = Jvm.exec) {Q : Option Value → Heap → List Loc → Prop} {cs ss : Nat} {w : Value} {t : FieldType} {rest : List Value} (hlk : meth.locks = false) (hret : meth.sig.returnType = some t) (hd : decode c.code pc = .ok (.areturn, 1)) (ht : t.isReference = true) (hv : w.isRef = true) (hc : cells ≤ cs) (hs : slots ≤ ss) (hq : Q (some w) T.heap locs) : own_Go p e below (own_K Q s cs ss) T (mkF m pc Ls (w :: rest)) :=
  own_ret X hx hlk hret hd (by rcases ref_cases hv with rfl | ⟨a, rfl⟩ <;> cases t <;> first | rfl | cases ht) (Or.inr (Or.inr (Or.inr (Or.inr ⟨rfl, ht, hv⟩)))) hc hs hq
theorem own_retV (X : Stand p l e R s m args below meth c T locs cells slots) (hx : p.tables.exec = Jvm.exec) {Q : Option Value → Heap → List Loc → Prop} {cs ss : Nat} (hlk : meth.locks = false) (hret : meth.sig.returnType = none) (hd : decode c.code pc = .ok (.return_, 1)) (hc : cells ≤ cs) (hs : slots ≤ ss) (hq : Q none T.heap locs) : own_Go p e below (own_K Q s cs ss) T (mkF m pc Ls []) := by
  obtain ⟨fs, hr, hrun, hended, hW, hsame⟩ := X.leave (v := none) (fun _ => rfl) hlk
  exact ⟨_, _, X.returnOut hx hret hd hr, hrun, hended, _, _, rfl, hq, ⟨_, rfl⟩, hW, hsame.mono hc hs⟩
/-- the two roads of a conditional branch -/
theorem own_if (X : Stand p l e R s m args below meth c T locs cells slots) (hx : p.tables.exec = Jvm.exec) {cd : ClassFile.Cond} {o : Int} {z : Int32} {rest : List Value} (hd : decode c.code pc = .ok (.ifCond cd o, 3)) (ho : 0 ≤ (pc : Int) + o) (hp : ((pc : Int) + o).toNat = pc') {pc1 : Nat} (hp1 : pc + 3 = pc1) (P : Prop) (h1 : P → ifCond.holds cd z = true) (h2 : ¬ P → ifCond.holds cd z = false)
    (kt : P → own_Go p e below K T (mkF m pc' Ls rest)) (kf : ¬ P → own_Go p e below K T (mkF m pc1 Ls rest)) : own_Go p e below K T (mkF m pc Ls (.int z :: rest)) := by
  subst hp1
  by_cases q : P
  · exact own_go (fun t k => XS.ifYes X.here hx (g := mkF m pc Ls (.int z :: rest)) rfl (pc0 := pc) (pc' := pc') rfl hd rfl (h1 q) ho hp k) (kt q)
  · exact own_go (fun t k => XS.ifNo X.here hx (g := mkF m pc Ls (.int z :: rest)) rfl hd rfl (h2 q) k) (kf q)
theorem own_icmp (X : Stand p l e R s m args below meth c T locs cells slots) (hx : p.tables.exec = Jvm.exec) {cd : ClassFile.Cond} {o : Int} {y z : Int32} {rest : List Value} (hd : decode c.code pc = .ok (.if_icmp cd o, 3)) (ho : 0 ≤ (pc : Int) + o) (hp : ((pc : Int) + o).toNat = pc') {pc1 : Nat} (hp1 : pc + 3 = pc1) (P : Prop) (h1 : P → if_icmp.holds cd y z = true) (h2 : ¬ P → if_icmp.holds cd y z = false)
    (kt : P → own_Go p e below K T (mkF m pc' Ls rest)) (kf : ¬ P → own_Go p e below K T (mkF m pc1 Ls rest)) : own_Go p e below K T (mkF m pc Ls (.int z :: .int y :: rest)) := by
  subst hp1
  by_cases q : P
  · exact own_go (fun t k => XS.icmpYes X.here hx (g := mkF m pc Ls (.int z :: .int y :: rest)) rfl (pc0 := pc) (pc' := pc') rfl hd rfl (h1 q) ho hp k) (kt q)
  · exact own_go (fun t k => XS.icmpNo X.here hx (g := mkF m pc Ls (.int z :: .int y :: rest)) rfl hd rfl (h2 q) k) (kf q)
theorem own_callS (X : Stand p l e R s m args below meth c T locs cells slots) (hx : p.tables.exec = Jvm.exec) (hZ : Z.Warmed39 s.vm) {own : String} {index : Nat} {y : MethodName} {bytes : ByteArray} {mx : Nat} {rt : Option FieldType} {rm : Room} {argsL rest : List Value} {Q : Option Value → Heap → List Loc → Prop}
    (hown : s.vm.findClass own = some m.cls) (w1 : (Jvm.Cond.methodLink own index y).before a0 Z = true) (w2 : (Jvm.Cond.static y).before a0 Z = true) (w3 : (Jvm.Cond.initialized y.cls).before a0 Z = true) (w4 : (Jvm.Cond.code y bytes mx rt).before a0 Z = true) (hy : y.cls ≠ "java/lang/invoke/MethodHandle" ∧ y.cls ≠ "java/lang/invoke/VarHandle")
    (eT : T.heap = h) (hM : own_Met l Z y bytes mx rt [] rm argsL.toArray h Q) (W : Nat) (hf : rm.frames + 1 ≤ R.frames) (hl : W + (mx + 11) + rm.locals ≤ R.locals) (hcl : cells + rm.cells ≤ R.cells) (hsl : slots + rm.slots ≤ R.slots) (hsz : Ls.size = c.maxLocals) (hlen : ∀ sig, parseMethodDescriptor y.desc = some sig → argsL.length = sig.parameters.length)
    (hst : st = argsL.reverse ++ rest) (hW : (rest.map fun v => v.category).sum ≤ W) (hd : decode c.code pc = .ok (.invokestatic index, 3)) :
    ∃ v T' L, Stand p l e R s m args below meth c T' (locs ++ L) (cells + rm.cells) (slots + rm.slots) ∧ Q v T'.heap L ∧ ∀ t, Steps p.tables e below (T'.setTop (mkF m (pc + 3) Ls (v.toList ++ rest))) t → Steps p.tables e below (T.setTop (mkF m pc Ls st)) t := by
  obtain ⟨v, vm1, ⟨T', L', k', n'⟩, -, X', ⟨L, hQ, l1, l2, l3⟩, stp⟩ := Jvm.LawKit.callS X hx (y := y) hown (mvT hZ w1) (mvT hZ w2) (mvT hZ w3) (mvT hZ w4) hy (backOf (W := W) hM hZ w4 w3 hf hl) (g := mkF m pc Ls st) rfl hsz (argsL := argsL) (rest := rest) hlen hst (by show 2 * 0 + _ ≤ _; omega) hd (fun _ _ => ⟨rfl, eT, hcl, hsl⟩)
  dsimp only [Pt.U, Pt.locs, Pt.cells, Pt.slots] at X' l1 l2 l3 stp hQ
  subst l1 l2 l3
  exact ⟨v, T', L, X', hQ, stp⟩
theorem own_callV (X : Stand p l e R s m args below meth c T locs cells slots) (hx : p.tables.exec = Jvm.exec) (hZ : Z.Warmed39 s.vm) {own C : String} {index : Nat} {y z : MethodName} {bytes : ByteArray} {mx : Nat} {rt : Option FieldType} {rm : Room} {b : Addr} {argsL rest : List Value} {Q : Option Value → Heap → List Loc → Prop}
    (hown : s.vm.findClass own = some m.cls) (w1 : (Jvm.Cond.methodLink own index y).before a0 Z = true) (w2 : (Jvm.Cond.declares y).before a0 Z = true) (w3 : (Jvm.Cond.selects C y z).before a0 Z = true) (hnf : NotFace s y) (w4 : (Jvm.Cond.instanceMethod z).before a0 Z = true) (w5 : (Jvm.Cond.code z bytes mx rt).before a0 Z = true) (w6 : (Jvm.Cond.initialized z.cls).before a0 Z = true) (hy : y.cls ≠ "java/lang/invoke/MethodHandle" ∧ y.cls ≠ "java/lang/invoke/VarHandle")
    (eT : T.heap = h) (E : Exa Z h b C) (hM : own_Met l Z z bytes mx rt [] rm (.ref b :: argsL).toArray h Q) (W : Nat) (hf : rm.frames + 1 ≤ R.frames) (hl : W + (mx + 11) + rm.locals ≤ R.locals) (hcl : cells + rm.cells ≤ R.cells) (hsl : slots + rm.slots ≤ R.slots) (hsz : Ls.size = c.maxLocals) (hlen : ∀ sig, parseMethodDescriptor y.desc = some sig → argsL.length = sig.parameters.length)
    (hst : st = argsL.reverse ++ .ref b :: rest) (hW : (rest.map fun v => v.category).sum ≤ W) (hd : decode c.code pc = .ok (.invokevirtual index, 3)) :
    ∃ v T' L, Stand p l e R s m args below meth c T' (locs ++ L) (cells + rm.cells) (slots + rm.slots) ∧ Q v T'.heap L ∧ ∀ t, Steps p.tables e below (T'.setTop (mkF m (pc + 3) Ls (v.toList ++ rest))) t → Steps p.tables e below (T.setTop (mkF m pc Ls st)) t := by
  obtain ⟨cq, kq, q1, q2, q3⟩ := isOf hZ eT E
  obtain ⟨v, vm1, ⟨T', L', k', n'⟩, -, X', ⟨L, hQ, l1, l2, l3⟩, stp⟩ := X.virtualBack hx (y := y) (z := z) hown (mvT hZ w1) (mvT hZ w2) hnf (mvT hZ w3) (mvT hZ w4) hy (backOf (W := W) hM hZ w5 w6 hf hl) q1 q3 (g := mkF m pc Ls st) rfl hsz (Steps.refl _) (argsL := argsL) (rest := rest) hlen hst (by show 2 * 0 + _ ≤ _; omega) hd (fun _ _ => ⟨rfl, eT, hcl, hsl⟩)
  dsimp only [Pt.U, Pt.locs, Pt.cells, Pt.slots] at X' l1 l2 l3 stp hQ
  subst l1 l2 l3
  exact ⟨v, T', L, X', hQ, fun t k => stp.trans k⟩
theorem own_callU (X : Stand p l e R s m args below meth c T locs cells slots) (hx : p.tables.exec = Jvm.exec) (hZ : Z.Warmed39 s.vm) {own C owner : String} {index : Nat} {y z : MethodName} {bytes : ByteArray} {mx : Nat} {rt : Option FieldType} {rm : Room} {b : Addr} {argsL rest : List Value} {Q : Option Value → Heap → List Loc → Prop}
    (hown : s.vm.findClass own = some m.cls) (w1 : (Jvm.Cond.methodLink own index y).before a0 Z = true) (w2 : (Jvm.Cond.sameMethod y.cls owner y.name y.desc).before a0 Z = true) (w2' : (Jvm.Cond.declares ⟨owner, y.name, y.desc⟩).before a0 Z = true) (w3 : (Jvm.Cond.selects C y z).before a0 Z = true) (w4 : (Jvm.Cond.instanceMethod z).before a0 Z = true) (w5 : (Jvm.Cond.code z bytes mx rt).before a0 Z = true) (w6 : (Jvm.Cond.initialized z.cls).before a0 Z = true) (hy : owner ≠ "java/lang/invoke/MethodHandle" ∧ owner ≠ "java/lang/invoke/VarHandle")
    (eT : T.heap = h) (E : Exa Z h b C) (hM : own_Met l Z z bytes mx rt [] rm (.ref b :: argsL).toArray h Q) (W : Nat) (hf : rm.frames + 1 ≤ R.frames) (hl : W + (mx + 11) + rm.locals ≤ R.locals) (hcl : cells + rm.cells ≤ R.cells) (hsl : slots + rm.slots ≤ R.slots) (hsz : Ls.size = c.maxLocals) (hlen : ∀ sig, parseMethodDescriptor y.desc = some sig → argsL.length = sig.parameters.length)
    (hst : st = argsL.reverse ++ .ref b :: rest) (hW : (rest.map fun v => v.category).sum ≤ W) (hd : decode c.code pc = .ok (.invokevirtual index, 3)) :
    ∃ v T' L, Stand p l e R s m args below meth c T' (locs ++ L) (cells + rm.cells) (slots + rm.slots) ∧ Q v T'.heap L ∧ ∀ t, Steps p.tables e below (T'.setTop (mkF m (pc + 3) Ls (v.toList ++ rest))) t → Steps p.tables e below (T.setTop (mkF m pc Ls st)) t := by
  obtain ⟨cq, kq, q1, q2, q3⟩ := isOf hZ eT E
  obtain ⟨v, vm1, ⟨T', L', k', n'⟩, -, X', ⟨L, hQ, l1, l2, l3⟩, stp⟩ := X.virtualBackUp hx (x := y) (y := z) hown (mvT hZ w1) (mvT hZ w2) (mvT hZ w2') hy (mvT hZ w3) (mvT hZ w4) (backOf (W := W) hM hZ w5 w6 hf hl) q1 q3 (g := mkF m pc Ls st) rfl hsz (Steps.refl _) (argsL := argsL) (rest := rest) hlen hst (by show 2 * 0 + _ ≤ _; omega) hd (fun _ _ => ⟨rfl, eT, hcl, hsl⟩)
  dsimp only [Pt.U, Pt.locs, Pt.cells, Pt.slots] at X' l1 l2 l3 stp hQ
  subst l1 l2 l3
  exact ⟨v, T', L, X', hQ, fun t k => stp.trans k⟩
theorem own_callC (X : Stand p l e R s m args below meth c T locs cells slots) (hx : p.tables.exec = Jvm.exec) (hZ : Z.Warmed39 s.vm) {own : String} {index : Nat} {y : MethodName} {bytes : ByteArray} {mx : Nat} {rm : Room} {b : Addr} {argsL rest : List Value} {Q : Option Value → Heap → List Loc → Prop}
    (hy1 : y.name = "<init>") (hown : s.vm.findClass own = some m.cls) (w1 : (Jvm.Cond.methodLink own index y).before a0 Z = true) (w4 : (Jvm.Cond.instanceMethod y).before a0 Z = true) (w5 : (Jvm.Cond.code y bytes mx none).before a0 Z = true) (w6 : (Jvm.Cond.initialized y.cls).before a0 Z = true) (hy : y.cls ≠ "java/lang/invoke/MethodHandle" ∧ y.cls ≠ "java/lang/invoke/VarHandle")
    (eT : T.heap = h) (hM : own_Met l Z y bytes mx none [] rm (.ref b :: argsL).toArray h Q) (W : Nat) (hf : rm.frames + 1 ≤ R.frames) (hl : W + (mx + 11) + rm.locals ≤ R.locals) (hcl : cells + rm.cells ≤ R.cells) (hsl : slots + rm.slots ≤ R.slots) (hsz : Ls.size = c.maxLocals) (hlen : ∀ sig, parseMethodDescriptor y.desc = some sig → argsL.length = sig.parameters.length)
    (hst : st = argsL.reverse ++ .ref b :: rest) (hW : (rest.map fun v => v.category).sum ≤ W) (hd : decode c.code pc = .ok (.invokespecial index, 3)) :
    ∃ v T' L, Stand p l e R s m args below meth c T' (locs ++ L) (cells + rm.cells) (slots + rm.slots) ∧ Q v T'.heap L ∧ ∀ t, Steps p.tables e below (T'.setTop (mkF m (pc + 3) Ls (v.toList ++ rest))) t → Steps p.tables e below (T.setTop (mkF m pc Ls st)) t := by
  obtain ⟨v, vm1, ⟨T', L', k', n'⟩, -, X', ⟨L, hQ, l1, l2, l3⟩, stp⟩ := X.specialBack hx (y := y) hy1 hown (mvT hZ w1) (mvT hZ w4) (mvT hZ w5) hy (backOf (W := W) hM hZ w5 w6 hf hl) (g := mkF m pc Ls st) rfl hsz (Steps.refl _) (a := b) (argsL := argsL) (rest := rest) hlen hst (by show 2 * 0 + _ ≤ _; omega) hd (fun _ _ => ⟨rfl, eT, hcl, hsl⟩)
  dsimp only [Pt.U, Pt.locs, Pt.cells, Pt.slots] at X' l1 l2 l3 stp hQ
  subst l1 l2 l3
  exact ⟨v, T', L, X', hQ, fun t k => stp.trans k⟩
end Own
section OwnStart
variable {Z : State} {args : Array Value} {t u : Term} {a : Addr} {C n d : String}
theorem own_eqI {k : Int32} (h : (Jvm.Cond.eq t (.int k)).value args Z none Z [] = some true) : t.eval args Z none [] Z = some (.int k) := by
  simp only [Cond.value, Term.eval] at h
  cases ht : t.eval args Z none [] Z with
  | none => simp [ht] at h
  | some x => cases x <;> simp [ht] at h ⊢; exact h
theorem own_eqJ {k : Int64} (h : (Jvm.Cond.eq t (.long k)).value args Z none Z [] = some true) : t.eval args Z none [] Z = some (.long k) := by
  simp only [Cond.value, Term.eval] at h
  cases ht : t.eval args Z none [] Z with
  | none => simp [ht] at h
  | some x => cases x <;> simp [ht] at h ⊢; exact h
theorem own_fld {v : Value} (ev : t.eval args Z none [] Z = some (.ref a)) (h : (Term.field t C n d).eval args Z none [] Z = some v) : Fld Z Z.heap a C n d v := Fld.start ((fld_at ev).symm.trans h)
theorem own_eqR {b : Addr} (ha : t.eval args Z none [] Z = some (.ref b)) (h : (Jvm.Cond.eq u t).value args Z none Z [] = some true) : u.eval args Z none [] Z = some (.ref b) := by
  cases hu : u.eval args Z none [] Z with
  | none => simp [Cond.value, hu] at h
  | some x => cases x <;> simp [Cond.value, hu, ha] at h ⊢; exact h
theorem own_lenOf {cl : Cell} {ty : FieldType} {k : Int32} (ev : t.eval args Z none [] Z = some (.ref a)) (A : Arr Z Z.heap a cl ty) (h : (Term.length t).eval args Z none [] Z = some (.int k)) : cl.slots.size < 2 ^ 31 ∧ cl.slots.size.toInt32 = k := by
  have q := A.fin (Vm.Alike.refl _)
  by_cases hl : cl.slots.size < 2 ^ 31
  · rw [len_f ev q hl] at h
    exact ⟨hl, by cases h; rfl⟩
  · simp [Term.eval, ev, q, hl] at h
end OwnStart
section OwnArr
variable {p : Program} {l : Launch} {e : Env} {R : Room} {s : State} {m : MethodId} {args : Array Value} {below : List Frame} {meth : Method} {c : Code} {T : State} {locs : List Loc} {cells slots : Nat} {Z : State} {a0 : Array Value} {K : State → Outcome → Prop} {pc pc' : Nat} {Ls : Array Slot} {rest : List Value} {h : Heap}
theorem own_oldge {n0 : Nat} (O : Old Z n0 h) : n0 ≤ h.size := O.1 ▸ O.2.1
theorem own_newR (X : Stand p l e R s m args below meth c T locs cells slots) (hx : p.tables.exec = Jvm.exec) (hZ : Z.Warmed39 s.vm) {own C : String} {index : Nat} (hown : s.vm.findClass own = some m.cls) (w1 : (Jvm.Cond.classLink own index C).before a0 Z = true) (w2 : (Jvm.Cond.arrayOver (.object C)).before a0 Z = true) (eT : T.heap = h)
    (hd : decode c.code pc = .ok (.anewarray index, 3)) {n : Int32} (hn : ¬ n < 0) (cap : Nat) (hcap : n.toNatClampNeg ≤ cap) (hb : cap * 8 ≤ 536870912) (hc : cells + 1 ≤ R.cells) (hl : slots + cap ≤ R.slots) :
    ∃ T' h' b kA, Stand p l e R s m args below meth c T' locs (cells + 1) (slots + cap) ∧ T'.heap = h' ∧ Ext h h' ∧ b = h.size ∧ Arv Z h' b kA (.object C) n (List.replicate cap .null) .null ∧ Ovr Z kA C ∧ ∀ t, Steps p.tables e below (T'.setTop (mkF m (pc + 3) Ls (.ref b :: rest))) t → Steps p.tables e below (T.setTop (mkF m pc Ls (.int n :: rest))) t := by
  obtain ⟨T', h', kA, X', e', E', A', O', st'⟩ := newR X hx hZ hown w1 w2 eT (g := mkF m pc Ls (.int n :: rest)) rfl hd rfl hn hcap hb hc hl
  exact ⟨T', h', h.size, kA, X', e', E', rfl, (Arv.new A' hn).pad (pad_rep [] _ cap), O', st'⟩
theorem own_stR (X : Stand p l e R s m args below meth c T locs cells slots) (hx : p.tables.exec = Jvm.exec) (hZ : Z.Warmed39 s.vm) (eT : T.heap = h) {b y : Addr} {kA : ClassId} {C : String} {n j : Int32} {vs vs' : List Value} (V : Arv Z h b kA (.object C) n vs .null) (O : Ovr Z kA C) (I : Ins Z h y C true) (hj : ¬ j < 0 ∧ j < n) (i : Nat) (hi : j.toNatClampNeg = i) (hil : i < vs.length) (hvs : vs.set i (.ref y) = vs') {n0 : Nat} (N : Fr n0 locs) (g : n0 ≤ b)
    (hd : decode c.code pc = .ok (.aastore, 1)) :
    ∃ T' h' L', Stand p l e R s m args below meth c T' L' cells slots ∧ Fr n0 L' ∧ T'.heap = h' ∧ Wr h h' b i (.ref y) ∧ Arv Z h' b kA (.object C) n vs' .null ∧ ∀ t, Steps p.tables e below (T'.setTop (mkF m (pc + 1) Ls rest)) t → Steps p.tables e below (T.setTop (mkF m pc Ls (.ref y :: .int j :: .ref b :: rest))) t := by
  obtain ⟨cl, A, q, S, Nn, H, G⟩ := V
  subst hvs
  obtain ⟨T', h', X', e', W', st'⟩ := stR X hx hZ eT A (j := j) (inb_of S hj) rfl (Sto.ofV A q O I) (g := mkF m pc Ls (.ref y :: .int j :: .ref b :: rest)) rfl rfl hd
  refine ⟨T', h', _, X', Fr.snoc X' N g, e', hi ▸ W', Arv.set A q S Nn H G rfl W' i hi hil, st'⟩
theorem own_ldR (X : Stand p l e R s m args below meth c T locs cells slots) (hx : p.tables.exec = Jvm.exec) (hZ : Z.Warmed39 s.vm) (eT : T.heap = h) {b : Addr} {kA : ClassId} {ty : FieldType} {n j : Int32} {vs : List Value} {dv v : Value} (V : Arv Z h b kA ty n vs dv) (hty : ty.isReference = true) (hj : ¬ j < 0 ∧ j < n) (hv : vs.getD j.toNatClampNeg dv = v) (hd : decode c.code pc = .ok (.aaload, 1)) :
    ∀ t, Steps p.tables e below (T.setTop (mkF m (pc + 1) Ls (v :: rest))) t → Steps p.tables e below (T.setTop (mkF m pc Ls (.int j :: .ref b :: rest))) t := by
  obtain ⟨cl, A, q, S, Nn, H, G⟩ := V
  intro t k
  exact X.aaload hx (j := j) (v := v) (by rw [eT]; exact A.1) (State.isArrayOf_alike hZ.alike A.2.1) hty A.2.2 (inb_of S hj) (H.at (inb_of S hj) hv) (g := mkF m pc Ls (.int j :: .ref b :: rest)) rfl rfl hd t k
theorem own_len (X : Stand p l e R s m args below meth c T locs cells slots) (hx : p.tables.exec = Jvm.exec) (hZ : Z.Warmed39 s.vm) (eT : T.heap = h) {b : Addr} {kA : ClassId} {ty : FieldType} {n : Int32} {vs : List Value} {dv : Value} (V : Arv Z h b kA ty n vs dv) (hd : decode c.code pc = .ok (.arraylength, 1)) :
    ∀ t, Steps p.tables e below (T.setTop (mkF m (pc + 1) Ls (.int n :: rest))) t → Steps p.tables e below (T.setTop (mkF m pc Ls (.ref b :: rest))) t := by
  obtain ⟨cl, A, q, S, Nn, H, G⟩ := V
  intro t k
  refine X.arraylength hx (by rw [eT]; exact A.1) (State.isArrayOf_alike hZ.alike A.2.1) (g := mkF m pc Ls (.ref b :: rest)) rfl rfl hd t ?_
  rw [len_of S Nn]
  exact k
end OwnArr
theorem own_maskInt (x : Int32) : 0 ≤ (x &&& (2147483647 : Int32)).toInt := by
  have h : (x &&& (2147483647 : Int32)).toBitVec.msb = false := by
    show (x.toBitVec &&& 2147483647#32).msb = false
    rw [BitVec.msb_and]
    have : (2147483647#32).msb = false := by decide
    rw [this, Bool.and_false]
  have h2 : (x &&& (2147483647 : Int32)).toInt = (x &&& (2147483647 : Int32)).toBitVec.toInt := rfl
  rw [h2, BitVec.toInt_eq_toNat_of_msb h]
  omega
theorem own_rem (x n : Int32) (hn : 0 < n.toInt) : ¬ (x &&& (2147483647 : Int32)) % n < 0 ∧ (x &&& (2147483647 : Int32)) % n < n := by
  have h0 := own_maskInt x
  have e0 : (0 : Int32).toInt = 0 := rfl
  rw [Int32.lt_iff_toInt_lt, Int32.lt_iff_toInt_lt, Int32.toInt_mod, e0]
  have h1 := Int.tmod_nonneg n.toInt h0
  have h2 := Int.tmod_lt_of_pos (x &&& (2147483647 : Int32)).toInt hn
  omega
section OwnClone
variable {p : Program} {l : Launch} {e : Env} {R : Room} {s : State} {m : MethodId} {args : Array Value} {below : List Frame} {meth : Method} {c : Code} {T : State} {locs : List Loc} {cells slots : Nat} {Z : State} {a0 : Array Value} {pc : Nat} {Ls : Array Slot} {rest : List Value} {h : Heap}
theorem own_clone (X : Stand p l e R s m args below meth c T locs cells slots) (hx : p.tables.exec = Jvm.exec) (hZ : Z.Warmed39 s.vm) {own ad : String} {index : Nat} (hown : s.vm.findClass own = some m.cls)
    (w1 : (Jvm.Cond.methodLink own index ⟨ad, "clone", "()Ljava/lang/Object;"⟩).before a0 Z = true) (w2 : (Jvm.Cond.sameMethod ad "java/lang/Object" "clone" "()Ljava/lang/Object;").before a0 Z = true) (w3 : (Jvm.Cond.native ⟨"java/lang/Object", "clone", "()Ljava/lang/Object;"⟩).before a0 Z = true)
    (w4 : (Jvm.Cond.instanceMethod ⟨"java/lang/Object", "clone", "()Ljava/lang/Object;"⟩).before a0 Z = true) (w5 : (Jvm.Cond.selects ad ⟨ad, "clone", "()Ljava/lang/Object;"⟩ ⟨"java/lang/Object", "clone", "()Ljava/lang/Object;"⟩).before a0 Z = true) (w6 : (Jvm.Cond.castable ad "java/lang/Cloneable").before a0 Z = true)
    (eT : T.heap = h) {a : Addr} {k : ClassId} {ty : FieldType} {z : Int32} {vs : List Value} {dv : Value} (F : Arv Z h a k ty z vs dv) (E : Exa Z h a ad) (hsz : Ls.size = c.maxLocals) (hd : decode c.code pc = .ok (.invokevirtual index, 3))
    (hf : 1 ≤ R.frames) (W cap : Nat) (hW : (rest.map fun v => v.category).sum ≤ W) (hl : W + 14 ≤ R.locals) (hcap : z.toNatClampNeg ≤ cap) (hc : cells + 1 ≤ R.cells) (hsl : slots + cap ≤ R.slots) :
    ∃ T' h' b, Stand p l e R s m args below meth c T' locs (cells + 1) (slots + cap) ∧ T'.heap = h' ∧ Ext h h' ∧ b = h.size ∧ Arv Z h' b k ty z vs dv ∧ Exa Z h' b ad ∧
      ∀ t, Steps p.tables e below (T'.setTop (mkF m (pc + 3) Ls (.ref b :: rest))) t → Steps p.tables e below (T.setTop (mkF m pc Ls (.ref a :: rest))) t := by
  obtain ⟨cl, A, q1, S, q3, H, G⟩ := F
  have FC : FitC Z cl := fitC_of A fun i hi v hv => by rw [H i hi] at hv; cases hv; exact G i hi
  obtain ⟨T', h', X', e', ex, A', E', st⟩ := cloneA X hx hZ hown w1 w2 w3 w4 w5 w6 eT A E FC (g := mkF m pc Ls (.ref a :: rest)) rfl hsz rfl hd hf (W := W) (cap := cap) (by show 2 * 0 + _ ≤ _; omega) hl (by rw [S]; exact hcap) hc hsl
  exact ⟨T', h', h.size, X', e', ex, rfl, ⟨cloneOf cl, A', q1, S, q3, H, G⟩, E', st⟩
theorem own_lrem {g : JFrame} {target : State} (X : Stand p l e R s m args below meth c T locs cells slots) (hx : p.tables.exec = Jvm.exec) (hg : g.method = m) {x y : Int64} {rest : List Value} (hd : decode c.code g.pc = .ok (.lrem, 1)) (hs : g.stack = .long y :: .long x :: rest) (hy : y ≠ 0)
    (hr : Steps p.tables e below (T.setTop { g with pc := g.pc + 1, stack := .long (x % y) :: rest }) target) : Steps p.tables e below (T.setTop g) target := by
  have q : x - x / y * y = x % y := by
    rw [← Int64.toInt_inj, Int64.toInt_sub, Int64.toInt_mul, Int64.toInt_div, Int64.toInt_mod]
    have h1 := Int.tmod_def x.toInt y.toInt
    have hb := Int64.toInt_mod x y
    have hr1 := (x % y).le_toInt
    have hr2 := (x % y).toInt_lt
    rw [Int64.toInt_mod] at hr1 hr2
    rw [Int.bmod_mul_bmod, Int.sub_bmod_bmod, Int.mul_comm, ← h1]
    exact Int.bmod_eq_of_le (by omega) (by omega)
  exact XS.lrem X.here hx hg hd hs hy (by rw [q]; exact hr)
end OwnClone
theorem own_n3 (x : Int64) : (x &&& (9223372036854775807 : Int64)) % (3 : Int64) + (1 : Int64) = 1 ∨ (x &&& (9223372036854775807 : Int64)) % (3 : Int64) + (1 : Int64) = 2 ∨ (x &&& (9223372036854775807 : Int64)) % (3 : Int64) + (1 : Int64) = 3 := by
  have h0 : 0 ≤ (x &&& (9223372036854775807 : Int64)).toInt := by
    have h : (x &&& (9223372036854775807 : Int64)).toBitVec.msb = false := by
      show (x.toBitVec &&& 9223372036854775807#64).msb = false
      rw [BitVec.msb_and]
      have : (9223372036854775807#64).msb = false := by decide
      rw [this, Bool.and_false]
    have h2 : (x &&& (9223372036854775807 : Int64)).toInt = (x &&& (9223372036854775807 : Int64)).toBitVec.toInt := rfl
    rw [h2, BitVec.toInt_eq_toNat_of_msb h]
    omega
  have h1 := Int.tmod_nonneg (3 : Int) h0
  have h2 := Int.tmod_lt_of_pos (x &&& (9223372036854775807 : Int64)).toInt (show (0 : Int) < 3 by decide)
  have h3 : ((x &&& (9223372036854775807 : Int64)) % (3 : Int64)).toInt = ((x &&& (9223372036854775807 : Int64)).toInt).tmod 3 := Int64.toInt_mod _ _
  rw [← h3] at h1 h2
  generalize (x &&& (9223372036854775807 : Int64)) % (3 : Int64) = r at h1 h2
  have h4 : r.toInt = 0 ∨ r.toInt = 1 ∨ r.toInt = 2 := by omega
  rcases h4 with q | q | q
  · obtain rfl : r = 0 := Int64.toInt_inj.mp q
    exact Or.inl (by decide)
  · obtain rfl : r = 1 := Int64.toInt_inj.mp q
    exact Or.inr (Or.inl (by decide))
  · obtain rfl : r = 2 := Int64.toInt_inj.mp q
    exact Or.inr (Or.inr (by decide))
theorem pn_com_example_tallygate_tallygate_policy_ConditionCertificate_Type : plainName "com/example/tallygate/tallygate/policy/ConditionCertificate$Type" = true := by first | (simp [plainName, overriddenIn]; done) | decide +kernel
theorem ef_2 (m : MethodId)  : entryFrame m #[] 0 = mkF m 0 #[] [] := by first | (simp [entryFrame, mkF, argsToLocals, Value.category]; done) | rfl
theorem d2_0 : decode prog_19_method_1_code 0 = .ok (.getstatic 13, 3) := by decide +kernel
theorem d2_3 : decode prog_19_method_1_code 3 = .ok (.invokevirtual 17, 3) := by decide +kernel
theorem d2_6 : decode prog_19_method_1_code 6 = .ok (.checkcast 18, 3) := by decide +kernel
theorem d2_9 : decode prog_19_method_1_code 9 = .ok (.areturn, 1) := by decide +kernel
theorem ef_3 (m : MethodId) (x0 : Addr) : entryFrame m #[(.ref x0)] 1 = mkF m 0 #[.val (.ref x0)] [] := by first | (simp [entryFrame, mkF, argsToLocals, Value.category]; done) | rfl
theorem d3_0 : decode prog_19_method_4_code 0 = .ok (.aload_n 0, 1) := by decide +kernel
theorem d3_1 : decode prog_19_method_4_code 1 = .ok (.getfield 32, 3) := by decide +kernel
theorem d3_4 : decode prog_19_method_4_code 4 = .ok (.ireturn, 1) := by decide +kernel
theorem ef_1 (m : MethodId) (x0 : Int64) : entryFrame m #[(.long x0)] 6 = mkF m 0 #[.val (.long x0), .second, .unset, .unset, .unset, .unset] [] := by first | (simp [entryFrame, mkF, argsToLocals, Value.category]; done) | rfl
theorem d1_0 : decode prog_19_method_5_code 0 = .ok (.invokestatic 36, 3) := by decide +kernel
theorem pd_2 : parseMethodDescriptor "()[Lcom/example/tallygate/tallygate/policy/ConditionCertificate$Type;" = some ⟨[], some (.array (.object "com/example/tallygate/tallygate/policy/ConditionCertificate$Type"))⟩ := by decide +kernel
theorem d1_3 : decode prog_19_method_5_code 3 = .ok (.astore_n 2, 1) := by decide +kernel
theorem d1_4 : decode prog_19_method_5_code 4 = .ok (.aload_n 2, 1) := by decide +kernel
theorem d1_5 : decode prog_19_method_5_code 5 = .ok (.arraylength, 1) := by decide +kernel
theorem d1_6 : decode prog_19_method_5_code 6 = .ok (.istore_n 3, 1) := by decide +kernel
theorem d1_7 : decode prog_19_method_5_code 7 = .ok (.iconst 0, 1) := by decide +kernel
theorem d1_8 : decode prog_19_method_5_code 8 = .ok (.istore 4, 2) := by decide +kernel
theorem d1_10 : decode prog_19_method_5_code 10 = .ok (.iload 4, 2) := by decide +kernel
theorem d1_12 : decode prog_19_method_5_code 12 = .ok (.iload_n 3, 1) := by decide +kernel
theorem d1_13 : decode prog_19_method_5_code 13 = .ok (.if_icmp .ge 29, 3) := by decide +kernel
theorem d1_16 : decode prog_19_method_5_code 16 = .ok (.aload_n 2, 1) := by decide +kernel
theorem d1_17 : decode prog_19_method_5_code 17 = .ok (.iload 4, 2) := by decide +kernel
theorem d1_19 : decode prog_19_method_5_code 19 = .ok (.aaload, 1) := by decide +kernel
theorem d1_20 : decode prog_19_method_5_code 20 = .ok (.astore 5, 2) := by decide +kernel
theorem d1_22 : decode prog_19_method_5_code 22 = .ok (.aload 5, 2) := by decide +kernel
theorem d1_24 : decode prog_19_method_5_code 24 = .ok (.getfield 32, 3) := by decide +kernel
theorem d1_27 : decode prog_19_method_5_code 27 = .ok (.i2l, 1) := by decide +kernel
theorem d1_28 : decode prog_19_method_5_code 28 = .ok (.lload_n 0, 1) := by decide +kernel
theorem d1_29 : decode prog_19_method_5_code 29 = .ok (.lcmp, 1) := by decide +kernel
theorem d1_30 : decode prog_19_method_5_code 30 = .ok (.ifCond .ne 6, 3) := by decide +kernel
theorem d1_33 : decode prog_19_method_5_code 33 = .ok (.aload 5, 2) := by decide +kernel
theorem d1_35 : decode prog_19_method_5_code 35 = .ok (.areturn, 1) := by decide +kernel
theorem d1_36 : decode prog_19_method_5_code 36 = .ok (.iinc 4 1, 3) := by decide +kernel
theorem d1_39 : decode prog_19_method_5_code 39 = .ok (.goto (-29), 3) := by decide +kernel
theorem pn_com_example_tallygate_tallygate_policy_TypeOfPinLaw : plainName "com/example/tallygate/tallygate/policy/TypeOfPinLaw" = true := by first | (simp [plainName, overriddenIn]; done) | decide +kernel
theorem ef_0 (m : MethodId) (x0 : Int64) : entryFrame m #[(.long x0)] maxLocals = mkF m 0 #[.val (.long x0), .second, .unset, .unset, .unset, .unset] [] := by first | (simp [entryFrame, mkF, argsToLocals, Value.category, maxLocals]; done) | rfl
theorem pd_3 : parseMethodDescriptor "(J)Lcom/example/tallygate/tallygate/policy/ConditionCertificate$Type;" = some ⟨[.long], some (.object "com/example/tallygate/tallygate/policy/ConditionCertificate$Type")⟩ := by decide +kernel
theorem pd_0 : parseMethodDescriptor "()I" = some ⟨[], some .int⟩ := by decide +kernel
set_option maxRecDepth 65536 in
set_option maxHeartbeats 40000000 in
theorem rmV (l : Launch) (Z : State) (a0 : Array Value) (hw : ∀ d ∈ tables_1, d.before a0 Z = true) (ws : List Jvm.Cond) (a_DELEGATES_ONWARD : Addr) (a_SVALUES : Addr) (a_DELEGATES : Addr) (a_HOLDS : Addr) (kv : ClassId) (h0 : Heap) (n0 : Nat) (Z0 : n0 ≤ h0.size) (O0 : Old Z n0 h0) (S_DELEGATES_ONWARD : Sta Z Z.heap "com/example/tallygate/tallygate/policy/ConditionCertificate$Type" "DELEGATES_ONWARD" "Lcom/example/tallygate/tallygate/policy/ConditionCertificate$Type;" (.ref a_DELEGATES_ONWARD)) (E_DELEGATES_ONWARD : Exa Z Z.heap a_DELEGATES_ONWARD "com/example/tallygate/tallygate/policy/ConditionCertificate$Type") (S_SVALUES : Sta Z Z.heap "com/example/tallygate/tallygate/policy/ConditionCertificate$Type" "$VALUES" "[Lcom/example/tallygate/tallygate/policy/ConditionCertificate$Type;" (.ref a_SVALUES)) (E_SVALUES : Exa Z Z.heap a_SVALUES "[Lcom/example/tallygate/tallygate/policy/ConditionCertificate$Type;") (S_DELEGATES : Sta Z Z.heap "com/example/tallygate/tallygate/policy/ConditionCertificate$Type" "DELEGATES" "Lcom/example/tallygate/tallygate/policy/ConditionCertificate$Type;" (.ref a_DELEGATES)) (E_DELEGATES : Exa Z Z.heap a_DELEGATES "com/example/tallygate/tallygate/policy/ConditionCertificate$Type") (S_HOLDS : Sta Z Z.heap "com/example/tallygate/tallygate/policy/ConditionCertificate$Type" "HOLDS" "Lcom/example/tallygate/tallygate/policy/ConditionCertificate$Type;" (.ref a_HOLDS)) (E_HOLDS : Exa Z Z.heap a_HOLDS "com/example/tallygate/tallygate/policy/ConditionCertificate$Type") (F_DELEGATES_ONWARD_number : Fld Z Z.heap a_DELEGATES_ONWARD "com/example/tallygate/tallygate/policy/ConditionCertificate$Type" "number" "I" (.int (1 : Int32))) (F_DELEGATES_number : Fld Z Z.heap a_DELEGATES "com/example/tallygate/tallygate/policy/ConditionCertificate$Type" "number" "I" (.int (2 : Int32))) (F_HOLDS_number : Fld Z Z.heap a_HOLDS "com/example/tallygate/tallygate/policy/ConditionCertificate$Type" "number" "I" (.int (3 : Int32))) (V_VAL : Arv Z Z.heap a_SVALUES kv (.object "com/example/tallygate/tallygate/policy/ConditionCertificate$Type") (3 : Int32) [(.ref a_DELEGATES_ONWARD), (.ref a_DELEGATES), (.ref a_HOLDS)] .null) :
    own_Met l Z (⟨"com/example/tallygate/tallygate/policy/ConditionCertificate$Type", "values", "()[Lcom/example/tallygate/tallygate/policy/ConditionCertificate$Type;"⟩ : MethodName) prog_19_method_1_code 0 (some (.array (.object "com/example/tallygate/tallygate/policy/ConditionCertificate$Type"))) ws ({ frames := 1, cells := 1, slots := 3, locals := 14 } : Room) #[] h0 (fun v h L => (∃ b : Addr, v = some (.ref b) ∧ Old Z n0 h ∧ Arv Z h b kv (.object "com/example/tallygate/tallygate/policy/ConditionCertificate$Type") (3 : Int32) [(.ref a_DELEGATES_ONWARD), (.ref a_DELEGATES), (.ref a_HOLDS)] .null) ∧ Fr n0 L) := by
  refine own_body (by first | exact plainFor_of_name pn_com_example_tallygate_tallygate_policy_ConditionCertificate_Type | decide +kernel) ?_
  intro p e s m below meth c T0 X0 hx hby hml hret hlk hZ hown hnm e0
  have hown : s.vm.findClass "com/example/tallygate/tallygate/policy/ConditionCertificate$Type" = some m.cls := hown
  have hnm : meth.name = "values" := hnm
  have N0 := Fr.nil n0
  rw [ef_2 m ]
  show own_Go p e below _ T0 (mkF m 0 #[] [])
  obtain ⟨T1, X1, e1, st1⟩ := getS2 X0 hx hZ hown (host := "") (Or.inl (own_w hw 11 rfl)) Via.refl e0 (S_SVALUES.ext O0.2) (g := (mkF m 0 #[] [])) rfl (hb hby d2_0)
  refine own_go st1 ?_
  show own_Go p e below _ T1 (mkF m 3 #[] [(.ref a_SVALUES)])
  obtain ⟨T2, h2, b2, X2, e2, E2, g2, V2, Ex2, st2⟩ := own_clone X1 hx hZ hown (own_w hw 13 rfl) (own_w hw 14 rfl) (own_w hw 18 rfl) (own_w hw 16 rfl) (own_w hw 17 rfl) (own_w hw 19 rfl) e1 (V_VAL.ext O0.2) (E_SVALUES.ext O0.2) (Ls := #[]) (rest := []) (by rw [hml]; rfl) (hb hby d2_3) (by decide) 0 3 (Nat.le_of_eq rfl) (by decide) (by decide) (by decide) (by decide)
  have ge_b2 : n0 ≤ b2 := g2 ▸ own_oldge O0
  have old2 := O0.ext E2
  refine own_go st2 ?_
  show own_Go p e below _ T2 (mkF m 6 #[] [(.ref b2)])
  obtain ⟨T3, X3, e3, st3⟩ := castY X2 hx hZ hown (own_w hw 23 rfl) e2 (Ins.self Ex2) (g := (mkF m 6 #[] [(.ref b2)])) rfl rfl (hb hby d2_6)
  refine own_go st3 ?_
  show own_Go p e below _ T3 (mkF m 9 #[] [(.ref b2)])
  refine own_retA X3 hx hlk hret (hb hby d2_9) rfl rfl (by decide) (by decide) ?_
  exact ⟨⟨b2, rfl, by rw [e3]; exact old2, by rw [e3]; exact V2⟩, N0⟩
set_option maxRecDepth 65536 in
set_option maxHeartbeats 40000000 in
theorem rmN (l : Launch) (Z : State) (a0 : Array Value) (hw : ∀ d ∈ tables_1, d.before a0 Z = true) (ws : List Jvm.Cond) (a1 : Addr) (k1 : Int32) (h0 : Heap) (n0 : Nat) (Z0 : n0 ≤ h0.size) (F1 : Fld Z h0 a1 "com/example/tallygate/tallygate/policy/ConditionCertificate$Type" "number" "I" (.int k1)) :
    own_Met l Z (⟨"com/example/tallygate/tallygate/policy/ConditionCertificate$Type", "number", "()I"⟩ : MethodName) prog_19_method_4_code 1 (some .int) ws ({ frames := 0, cells := 0, slots := 0, locals := 0 } : Room) #[(.ref a1)] h0 (fun v h L => v = some (.int k1) ∧ Fr n0 L ∧ h = h0) := by
  refine own_body (by first | exact plainFor_of_name pn_com_example_tallygate_tallygate_policy_ConditionCertificate_Type | decide +kernel) ?_
  intro p e s m below meth c T0 X0 hx hby hml hret hlk hZ hown hnm e0
  have hown : s.vm.findClass "com/example/tallygate/tallygate/policy/ConditionCertificate$Type" = some m.cls := hown
  have hnm : meth.name = "number" := hnm
  have N0 := Fr.nil n0
  rw [ef_3 m a1]
  show own_Go p e below _ T0 (mkF m 0 #[.val (.ref a1)] [])
  refine own_go (fun t k => XS.aloadN X0.here hx rfl (hb hby d3_0) rfl rfl k) ?_
  show own_Go p e below _ T0 (mkF m 1 #[.val (.ref a1)] [(.ref a1)])
  obtain ⟨T1, X1, e1, st1⟩ := getF X0 hx hZ hown (host := "") (Or.inl (own_w hw 25 rfl)) Via.refl e0 F1 (g := (mkF m 1 #[.val (.ref a1)] [(.ref a1)])) rfl rfl (hb hby d3_1)
  refine own_go st1 ?_
  show own_Go p e below _ T1 (mkF m 4 #[.val (.ref a1)] [(.int k1)])
  refine own_retI X1 hx hlk hret (hb hby d3_4) (by decide) (by decide) ?_
  exact ⟨rfl, N0, e1⟩
set_option maxRecDepth 65536 in
set_option maxHeartbeats 40000000 in
theorem rmO_1 (l : Launch) (Z : State) (a0 : Array Value) (hw : ∀ d ∈ tables_1, d.before a0 Z = true) (ws : List Jvm.Cond) (a_DELEGATES_ONWARD : Addr) (a_SVALUES : Addr) (a_DELEGATES : Addr) (a_HOLDS : Addr) (kv : ClassId) (h0 : Heap) (n0 : Nat) (Z0 : n0 ≤ h0.size) (O0 : Old Z n0 h0) (S_DELEGATES_ONWARD : Sta Z Z.heap "com/example/tallygate/tallygate/policy/ConditionCertificate$Type" "DELEGATES_ONWARD" "Lcom/example/tallygate/tallygate/policy/ConditionCertificate$Type;" (.ref a_DELEGATES_ONWARD)) (E_DELEGATES_ONWARD : Exa Z Z.heap a_DELEGATES_ONWARD "com/example/tallygate/tallygate/policy/ConditionCertificate$Type") (S_SVALUES : Sta Z Z.heap "com/example/tallygate/tallygate/policy/ConditionCertificate$Type" "$VALUES" "[Lcom/example/tallygate/tallygate/policy/ConditionCertificate$Type;" (.ref a_SVALUES)) (E_SVALUES : Exa Z Z.heap a_SVALUES "[Lcom/example/tallygate/tallygate/policy/ConditionCertificate$Type;") (S_DELEGATES : Sta Z Z.heap "com/example/tallygate/tallygate/policy/ConditionCertificate$Type" "DELEGATES" "Lcom/example/tallygate/tallygate/policy/ConditionCertificate$Type;" (.ref a_DELEGATES)) (E_DELEGATES : Exa Z Z.heap a_DELEGATES "com/example/tallygate/tallygate/policy/ConditionCertificate$Type") (S_HOLDS : Sta Z Z.heap "com/example/tallygate/tallygate/policy/ConditionCertificate$Type" "HOLDS" "Lcom/example/tallygate/tallygate/policy/ConditionCertificate$Type;" (.ref a_HOLDS)) (E_HOLDS : Exa Z Z.heap a_HOLDS "com/example/tallygate/tallygate/policy/ConditionCertificate$Type") (F_DELEGATES_ONWARD_number : Fld Z Z.heap a_DELEGATES_ONWARD "com/example/tallygate/tallygate/policy/ConditionCertificate$Type" "number" "I" (.int (1 : Int32))) (F_DELEGATES_number : Fld Z Z.heap a_DELEGATES "com/example/tallygate/tallygate/policy/ConditionCertificate$Type" "number" "I" (.int (2 : Int32))) (F_HOLDS_number : Fld Z Z.heap a_HOLDS "com/example/tallygate/tallygate/policy/ConditionCertificate$Type" "number" "I" (.int (3 : Int32))) (V_VAL : Arv Z Z.heap a_SVALUES kv (.object "com/example/tallygate/tallygate/policy/ConditionCertificate$Type") (3 : Int32) [(.ref a_DELEGATES_ONWARD), (.ref a_DELEGATES), (.ref a_HOLDS)] .null) :
    own_Met l Z (⟨"com/example/tallygate/tallygate/policy/ConditionCertificate$Type", "of", "(J)Lcom/example/tallygate/tallygate/policy/ConditionCertificate$Type;"⟩ : MethodName) prog_19_method_5_code 6 (some (.object "com/example/tallygate/tallygate/policy/ConditionCertificate$Type")) ws ({ frames := 2, cells := 1, slots := 3, locals := 25 } : Room) #[(.long (1 : Int64))] h0 (fun v h L => v = some (.ref a_DELEGATES_ONWARD) ∧ Old Z n0 h ∧ Fr n0 L) := by
  refine own_body (by first | exact plainFor_of_name pn_com_example_tallygate_tallygate_policy_ConditionCertificate_Type | decide +kernel) ?_
  intro p e s m below meth c T0 X0 hx hby hml hret hlk hZ hown hnm e0
  have hown : s.vm.findClass "com/example/tallygate/tallygate/policy/ConditionCertificate$Type" = some m.cls := hown
  have hnm : meth.name = "of" := hnm
  have N0 := Fr.nil n0
  rw [ef_1 m (1 : Int64)]
  show own_Go p e below _ T0 (mkF m 0 #[.val (.long (1 : Int64)), .second, .unset, .unset, .unset, .unset] [])
  obtain ⟨_, T1, L1, X1, ⟨⟨bv, rfl, old1, Vv⟩, N1⟩, st1⟩ := own_callS X0 hx hZ (y := (⟨"com/example/tallygate/tallygate/policy/ConditionCertificate$Type", "values", "()[Lcom/example/tallygate/tallygate/policy/ConditionCertificate$Type;"⟩ : MethodName)) (argsL := []) (rest := []) (Ls := #[.val (.long (1 : Int64)), .second, .unset, .unset, .unset, .unset]) hown (own_w hw 8 rfl) (own_w hw 9 rfl) (own_w hw 3 rfl) (own_w hw 10 rfl) (by decide) e0 (rmV l Z a0 hw [] a_DELEGATES_ONWARD a_SVALUES a_DELEGATES a_HOLDS kv h0 n0 (own_oldge O0) O0 S_DELEGATES_ONWARD E_DELEGATES_ONWARD S_SVALUES E_SVALUES S_DELEGATES E_DELEGATES S_HOLDS E_HOLDS F_DELEGATES_ONWARD_number F_DELEGATES_number F_HOLDS_number V_VAL) 0 (by decide) (by decide) (by decide) (by decide) (by rw [hml]; rfl) (lenOf pd_2 rfl) rfl (Nat.le_of_eq rfl) (hb hby d1_0)
  have M1 := Fr.app N0 N1
  refine own_go st1 ?_
  show own_Go p e below _ T1 (mkF m 3 #[.val (.long (1 : Int64)), .second, .unset, .unset, .unset, .unset] [(.ref bv)])
  refine own_go (fun t k => XS.astoreN X1.here hx rfl (hb hby d1_3) rfl rfl (l' := #[.val (.long (1 : Int64)), .second, .val (.ref bv), .unset, .unset, .unset]) rfl k) ?_
  show own_Go p e below _ T1 (mkF m 4 #[.val (.long (1 : Int64)), .second, .val (.ref bv), .unset, .unset, .unset] [])
  refine own_go (fun t k => XS.aloadN X1.here hx rfl (hb hby d1_4) rfl rfl k) ?_
  show own_Go p e below _ T1 (mkF m 5 #[.val (.long (1 : Int64)), .second, .val (.ref bv), .unset, .unset, .unset] [(.ref bv)])
  refine own_go (own_len X1 hx hZ rfl (Ls := #[.val (.long (1 : Int64)), .second, .val (.ref bv), .unset, .unset, .unset]) (rest := []) Vv (hb hby d1_5)) ?_
  show own_Go p e below _ T1 (mkF m 6 #[.val (.long (1 : Int64)), .second, .val (.ref bv), .unset, .unset, .unset] [(.int (3 : Int32))])
  refine own_go (fun t k => XS.istoreN X1.here hx rfl (hb hby d1_6) rfl (l' := #[.val (.long (1 : Int64)), .second, .val (.ref bv), .val (.int (3 : Int32)), .unset, .unset]) rfl k) ?_
  show own_Go p e below _ T1 (mkF m 7 #[.val (.long (1 : Int64)), .second, .val (.ref bv), .val (.int (3 : Int32)), .unset, .unset] [])
  refine own_go (fun t k => XS.iconst X1.here hx rfl (hb hby d1_7) k) ?_
  show own_Go p e below _ T1 (mkF m 8 #[.val (.long (1 : Int64)), .second, .val (.ref bv), .val (.int (3 : Int32)), .unset, .unset] [(.int (0 : Int32))])
  refine own_go (fun t k => XS.istore X1.here hx rfl (hb hby d1_8) rfl (l' := #[.val (.long (1 : Int64)), .second, .val (.ref bv), .val (.int (3 : Int32)), .val (.int (0 : Int32)), .unset]) rfl k) ?_
  show own_Go p e below _ T1 (mkF m 10 #[.val (.long (1 : Int64)), .second, .val (.ref bv), .val (.int (3 : Int32)), .val (.int (0 : Int32)), .unset] [])
  refine own_go (fun t k => XS.iload X1.here hx rfl (hb hby d1_10) rfl k) ?_
  show own_Go p e below _ T1 (mkF m 12 #[.val (.long (1 : Int64)), .second, .val (.ref bv), .val (.int (3 : Int32)), .val (.int (0 : Int32)), .unset] [(.int (0 : Int32))])
  refine own_go (fun t k => XS.iloadN X1.here hx rfl (hb hby d1_12) rfl k) ?_
  show own_Go p e below _ T1 (mkF m 13 #[.val (.long (1 : Int64)), .second, .val (.ref bv), .val (.int (3 : Int32)), .val (.int (0 : Int32)), .unset] [(.int (3 : Int32)), (.int (0 : Int32))])
  refine own_go (fun t k => XS.icmpNo X1.here hx rfl (hb hby d1_13) rfl (XT.ii_ge_f (by decide)) k) ?_
  show own_Go p e below _ T1 (mkF m 16 #[.val (.long (1 : Int64)), .second, .val (.ref bv), .val (.int (3 : Int32)), .val (.int (0 : Int32)), .unset] [])
  refine own_go (fun t k => XS.aloadN X1.here hx rfl (hb hby d1_16) rfl rfl k) ?_
  show own_Go p e below _ T1 (mkF m 17 #[.val (.long (1 : Int64)), .second, .val (.ref bv), .val (.int (3 : Int32)), .val (.int (0 : Int32)), .unset] [(.ref bv)])
  refine own_go (fun t k => XS.iload X1.here hx rfl (hb hby d1_17) rfl k) ?_
  show own_Go p e below _ T1 (mkF m 19 #[.val (.long (1 : Int64)), .second, .val (.ref bv), .val (.int (3 : Int32)), .val (.int (0 : Int32)), .unset] [(.int (0 : Int32)), (.ref bv)])
  refine own_go (own_ldR X1 hx hZ rfl (Ls := #[.val (.long (1 : Int64)), .second, .val (.ref bv), .val (.int (3 : Int32)), .val (.int (0 : Int32)), .unset]) (rest := []) Vv rfl (j := (0 : Int32)) (by decide) (v := (.ref a_DELEGATES_ONWARD)) rfl (hb hby d1_19)) ?_
  show own_Go p e below _ T1 (mkF m 20 #[.val (.long (1 : Int64)), .second, .val (.ref bv), .val (.int (3 : Int32)), .val (.int (0 : Int32)), .unset] [(.ref a_DELEGATES_ONWARD)])
  refine own_go (fun t k => XS.astore X1.here hx rfl (hb hby d1_20) rfl rfl (l' := #[.val (.long (1 : Int64)), .second, .val (.ref bv), .val (.int (3 : Int32)), .val (.int (0 : Int32)), .val (.ref a_DELEGATES_ONWARD)]) rfl k) ?_
  show own_Go p e below _ T1 (mkF m 22 #[.val (.long (1 : Int64)), .second, .val (.ref bv), .val (.int (3 : Int32)), .val (.int (0 : Int32)), .val (.ref a_DELEGATES_ONWARD)] [])
  refine own_go (fun t k => XS.aload X1.here hx rfl (hb hby d1_22) rfl rfl k) ?_
  show own_Go p e below _ T1 (mkF m 24 #[.val (.long (1 : Int64)), .second, .val (.ref bv), .val (.int (3 : Int32)), .val (.int (0 : Int32)), .val (.ref a_DELEGATES_ONWARD)] [(.ref a_DELEGATES_ONWARD)])
  obtain ⟨T2, X2, e2, st2⟩ := getF X1 hx hZ hown (host := "") (Or.inl (own_w hw 25 rfl)) Via.refl rfl (F_DELEGATES_ONWARD_number.ext old1.2) (g := (mkF m 24 #[.val (.long (1 : Int64)), .second, .val (.ref bv), .val (.int (3 : Int32)), .val (.int (0 : Int32)), .val (.ref a_DELEGATES_ONWARD)] [(.ref a_DELEGATES_ONWARD)])) rfl rfl (hb hby d1_24)
  refine own_go st2 ?_
  show own_Go p e below _ T2 (mkF m 27 #[.val (.long (1 : Int64)), .second, .val (.ref bv), .val (.int (3 : Int32)), .val (.int (0 : Int32)), .val (.ref a_DELEGATES_ONWARD)] [(.int (1 : Int32))])
  refine own_go (fun t k => XS.i2l X2.here hx rfl (hb hby d1_27) rfl k) ?_
  show own_Go p e below _ T2 (mkF m 28 #[.val (.long (1 : Int64)), .second, .val (.ref bv), .val (.int (3 : Int32)), .val (.int (0 : Int32)), .val (.ref a_DELEGATES_ONWARD)] [(.long (1 : Int32).toInt64)])
  rw [show (1 : Int32).toInt64 = (1 : Int64) from by decide]
  show own_Go p e below _ T2 (mkF m 28 #[.val (.long (1 : Int64)), .second, .val (.ref bv), .val (.int (3 : Int32)), .val (.int (0 : Int32)), .val (.ref a_DELEGATES_ONWARD)] [(.long (1 : Int64))])
  refine own_go (fun t k => XS.lloadN X2.here hx rfl (hb hby d1_28) rfl k) ?_
  show own_Go p e below _ T2 (mkF m 29 #[.val (.long (1 : Int64)), .second, .val (.ref bv), .val (.int (3 : Int32)), .val (.int (0 : Int32)), .val (.ref a_DELEGATES_ONWARD)] [(.long (1 : Int64)), (.long (1 : Int64))])
  refine own_go (fun t k => XT.lcmp X2.here hx rfl (hb hby d1_29) rfl k) ?_
  show own_Go p e below _ T2 (mkF m 30 #[.val (.long (1 : Int64)), .second, .val (.ref bv), .val (.int (3 : Int32)), .val (.int (0 : Int32)), .val (.ref a_DELEGATES_ONWARD)] [(.int (XT.cmpL (1 : Int64) (1 : Int64)))])
  refine own_go (fun t k => XS.ifNo X2.here hx rfl (hb hby d1_30) rfl (XT.ll_ne_f (by decide)) k) ?_
  show own_Go p e below _ T2 (mkF m 33 #[.val (.long (1 : Int64)), .second, .val (.ref bv), .val (.int (3 : Int32)), .val (.int (0 : Int32)), .val (.ref a_DELEGATES_ONWARD)] [])
  refine own_go (fun t k => XS.aload X2.here hx rfl (hb hby d1_33) rfl rfl k) ?_
  show own_Go p e below _ T2 (mkF m 35 #[.val (.long (1 : Int64)), .second, .val (.ref bv), .val (.int (3 : Int32)), .val (.int (0 : Int32)), .val (.ref a_DELEGATES_ONWARD)] [(.ref a_DELEGATES_ONWARD)])
  refine own_retA X2 hx hlk hret (hb hby d1_35) rfl rfl (by decide) (by decide) ?_
  exact ⟨rfl, by rw [e2]; exact old1, M1⟩
set_option maxRecDepth 65536 in
set_option maxHeartbeats 40000000 in
theorem rmO_2 (l : Launch) (Z : State) (a0 : Array Value) (hw : ∀ d ∈ tables_1, d.before a0 Z = true) (ws : List Jvm.Cond) (a_DELEGATES_ONWARD : Addr) (a_SVALUES : Addr) (a_DELEGATES : Addr) (a_HOLDS : Addr) (kv : ClassId) (h0 : Heap) (n0 : Nat) (Z0 : n0 ≤ h0.size) (O0 : Old Z n0 h0) (S_DELEGATES_ONWARD : Sta Z Z.heap "com/example/tallygate/tallygate/policy/ConditionCertificate$Type" "DELEGATES_ONWARD" "Lcom/example/tallygate/tallygate/policy/ConditionCertificate$Type;" (.ref a_DELEGATES_ONWARD)) (E_DELEGATES_ONWARD : Exa Z Z.heap a_DELEGATES_ONWARD "com/example/tallygate/tallygate/policy/ConditionCertificate$Type") (S_SVALUES : Sta Z Z.heap "com/example/tallygate/tallygate/policy/ConditionCertificate$Type" "$VALUES" "[Lcom/example/tallygate/tallygate/policy/ConditionCertificate$Type;" (.ref a_SVALUES)) (E_SVALUES : Exa Z Z.heap a_SVALUES "[Lcom/example/tallygate/tallygate/policy/ConditionCertificate$Type;") (S_DELEGATES : Sta Z Z.heap "com/example/tallygate/tallygate/policy/ConditionCertificate$Type" "DELEGATES" "Lcom/example/tallygate/tallygate/policy/ConditionCertificate$Type;" (.ref a_DELEGATES)) (E_DELEGATES : Exa Z Z.heap a_DELEGATES "com/example/tallygate/tallygate/policy/ConditionCertificate$Type") (S_HOLDS : Sta Z Z.heap "com/example/tallygate/tallygate/policy/ConditionCertificate$Type" "HOLDS" "Lcom/example/tallygate/tallygate/policy/ConditionCertificate$Type;" (.ref a_HOLDS)) (E_HOLDS : Exa Z Z.heap a_HOLDS "com/example/tallygate/tallygate/policy/ConditionCertificate$Type") (F_DELEGATES_ONWARD_number : Fld Z Z.heap a_DELEGATES_ONWARD "com/example/tallygate/tallygate/policy/ConditionCertificate$Type" "number" "I" (.int (1 : Int32))) (F_DELEGATES_number : Fld Z Z.heap a_DELEGATES "com/example/tallygate/tallygate/policy/ConditionCertificate$Type" "number" "I" (.int (2 : Int32))) (F_HOLDS_number : Fld Z Z.heap a_HOLDS "com/example/tallygate/tallygate/policy/ConditionCertificate$Type" "number" "I" (.int (3 : Int32))) (V_VAL : Arv Z Z.heap a_SVALUES kv (.object "com/example/tallygate/tallygate/policy/ConditionCertificate$Type") (3 : Int32) [(.ref a_DELEGATES_ONWARD), (.ref a_DELEGATES), (.ref a_HOLDS)] .null) :
    own_Met l Z (⟨"com/example/tallygate/tallygate/policy/ConditionCertificate$Type", "of", "(J)Lcom/example/tallygate/tallygate/policy/ConditionCertificate$Type;"⟩ : MethodName) prog_19_method_5_code 6 (some (.object "com/example/tallygate/tallygate/policy/ConditionCertificate$Type")) ws ({ frames := 2, cells := 1, slots := 3, locals := 25 } : Room) #[(.long (2 : Int64))] h0 (fun v h L => v = some (.ref a_DELEGATES) ∧ Old Z n0 h ∧ Fr n0 L) := by
  refine own_body (by first | exact plainFor_of_name pn_com_example_tallygate_tallygate_policy_ConditionCertificate_Type | decide +kernel) ?_
  intro p e s m below meth c T0 X0 hx hby hml hret hlk hZ hown hnm e0
  have hown : s.vm.findClass "com/example/tallygate/tallygate/policy/ConditionCertificate$Type" = some m.cls := hown
  have hnm : meth.name = "of" := hnm
  have N0 := Fr.nil n0
  rw [ef_1 m (2 : Int64)]
  show own_Go p e below _ T0 (mkF m 0 #[.val (.long (2 : Int64)), .second, .unset, .unset, .unset, .unset] [])
  obtain ⟨_, T1, L1, X1, ⟨⟨bv, rfl, old1, Vv⟩, N1⟩, st1⟩ := own_callS X0 hx hZ (y := (⟨"com/example/tallygate/tallygate/policy/ConditionCertificate$Type", "values", "()[Lcom/example/tallygate/tallygate/policy/ConditionCertificate$Type;"⟩ : MethodName)) (argsL := []) (rest := []) (Ls := #[.val (.long (2 : Int64)), .second, .unset, .unset, .unset, .unset]) hown (own_w hw 8 rfl) (own_w hw 9 rfl) (own_w hw 3 rfl) (own_w hw 10 rfl) (by decide) e0 (rmV l Z a0 hw [] a_DELEGATES_ONWARD a_SVALUES a_DELEGATES a_HOLDS kv h0 n0 (own_oldge O0) O0 S_DELEGATES_ONWARD E_DELEGATES_ONWARD S_SVALUES E_SVALUES S_DELEGATES E_DELEGATES S_HOLDS E_HOLDS F_DELEGATES_ONWARD_number F_DELEGATES_number F_HOLDS_number V_VAL) 0 (by decide) (by decide) (by decide) (by decide) (by rw [hml]; rfl) (lenOf pd_2 rfl) rfl (Nat.le_of_eq rfl) (hb hby d1_0)
  have M1 := Fr.app N0 N1
  refine own_go st1 ?_
  show own_Go p e below _ T1 (mkF m 3 #[.val (.long (2 : Int64)), .second, .unset, .unset, .unset, .unset] [(.ref bv)])
  refine own_go (fun t k => XS.astoreN X1.here hx rfl (hb hby d1_3) rfl rfl (l' := #[.val (.long (2 : Int64)), .second, .val (.ref bv), .unset, .unset, .unset]) rfl k) ?_
  show own_Go p e below _ T1 (mkF m 4 #[.val (.long (2 : Int64)), .second, .val (.ref bv), .unset, .unset, .unset] [])
  refine own_go (fun t k => XS.aloadN X1.here hx rfl (hb hby d1_4) rfl rfl k) ?_
  show own_Go p e below _ T1 (mkF m 5 #[.val (.long (2 : Int64)), .second, .val (.ref bv), .unset, .unset, .unset] [(.ref bv)])
  refine own_go (own_len X1 hx hZ rfl (Ls := #[.val (.long (2 : Int64)), .second, .val (.ref bv), .unset, .unset, .unset]) (rest := []) Vv (hb hby d1_5)) ?_
  show own_Go p e below _ T1 (mkF m 6 #[.val (.long (2 : Int64)), .second, .val (.ref bv), .unset, .unset, .unset] [(.int (3 : Int32))])
  refine own_go (fun t k => XS.istoreN X1.here hx rfl (hb hby d1_6) rfl (l' := #[.val (.long (2 : Int64)), .second, .val (.ref bv), .val (.int (3 : Int32)), .unset, .unset]) rfl k) ?_
  show own_Go p e below _ T1 (mkF m 7 #[.val (.long (2 : Int64)), .second, .val (.ref bv), .val (.int (3 : Int32)), .unset, .unset] [])
  refine own_go (fun t k => XS.iconst X1.here hx rfl (hb hby d1_7) k) ?_
  show own_Go p e below _ T1 (mkF m 8 #[.val (.long (2 : Int64)), .second, .val (.ref bv), .val (.int (3 : Int32)), .unset, .unset] [(.int (0 : Int32))])
  refine own_go (fun t k => XS.istore X1.here hx rfl (hb hby d1_8) rfl (l' := #[.val (.long (2 : Int64)), .second, .val (.ref bv), .val (.int (3 : Int32)), .val (.int (0 : Int32)), .unset]) rfl k) ?_
  show own_Go p e below _ T1 (mkF m 10 #[.val (.long (2 : Int64)), .second, .val (.ref bv), .val (.int (3 : Int32)), .val (.int (0 : Int32)), .unset] [])
  refine own_go (fun t k => XS.iload X1.here hx rfl (hb hby d1_10) rfl k) ?_
  show own_Go p e below _ T1 (mkF m 12 #[.val (.long (2 : Int64)), .second, .val (.ref bv), .val (.int (3 : Int32)), .val (.int (0 : Int32)), .unset] [(.int (0 : Int32))])
  refine own_go (fun t k => XS.iloadN X1.here hx rfl (hb hby d1_12) rfl k) ?_
  show own_Go p e below _ T1 (mkF m 13 #[.val (.long (2 : Int64)), .second, .val (.ref bv), .val (.int (3 : Int32)), .val (.int (0 : Int32)), .unset] [(.int (3 : Int32)), (.int (0 : Int32))])
  refine own_go (fun t k => XS.icmpNo X1.here hx rfl (hb hby d1_13) rfl (XT.ii_ge_f (by decide)) k) ?_
  show own_Go p e below _ T1 (mkF m 16 #[.val (.long (2 : Int64)), .second, .val (.ref bv), .val (.int (3 : Int32)), .val (.int (0 : Int32)), .unset] [])
  refine own_go (fun t k => XS.aloadN X1.here hx rfl (hb hby d1_16) rfl rfl k) ?_
  show own_Go p e below _ T1 (mkF m 17 #[.val (.long (2 : Int64)), .second, .val (.ref bv), .val (.int (3 : Int32)), .val (.int (0 : Int32)), .unset] [(.ref bv)])
  refine own_go (fun t k => XS.iload X1.here hx rfl (hb hby d1_17) rfl k) ?_
  show own_Go p e below _ T1 (mkF m 19 #[.val (.long (2 : Int64)), .second, .val (.ref bv), .val (.int (3 : Int32)), .val (.int (0 : Int32)), .unset] [(.int (0 : Int32)), (.ref bv)])
  refine own_go (own_ldR X1 hx hZ rfl (Ls := #[.val (.long (2 : Int64)), .second, .val (.ref bv), .val (.int (3 : Int32)), .val (.int (0 : Int32)), .unset]) (rest := []) Vv rfl (j := (0 : Int32)) (by decide) (v := (.ref a_DELEGATES_ONWARD)) rfl (hb hby d1_19)) ?_
  show own_Go p e below _ T1 (mkF m 20 #[.val (.long (2 : Int64)), .second, .val (.ref bv), .val (.int (3 : Int32)), .val (.int (0 : Int32)), .unset] [(.ref a_DELEGATES_ONWARD)])
  refine own_go (fun t k => XS.astore X1.here hx rfl (hb hby d1_20) rfl rfl (l' := #[.val (.long (2 : Int64)), .second, .val (.ref bv), .val (.int (3 : Int32)), .val (.int (0 : Int32)), .val (.ref a_DELEGATES_ONWARD)]) rfl k) ?_
  show own_Go p e below _ T1 (mkF m 22 #[.val (.long (2 : Int64)), .second, .val (.ref bv), .val (.int (3 : Int32)), .val (.int (0 : Int32)), .val (.ref a_DELEGATES_ONWARD)] [])
  refine own_go (fun t k => XS.aload X1.here hx rfl (hb hby d1_22) rfl rfl k) ?_
  show own_Go p e below _ T1 (mkF m 24 #[.val (.long (2 : Int64)), .second, .val (.ref bv), .val (.int (3 : Int32)), .val (.int (0 : Int32)), .val (.ref a_DELEGATES_ONWARD)] [(.ref a_DELEGATES_ONWARD)])
  obtain ⟨T2, X2, e2, st2⟩ := getF X1 hx hZ hown (host := "") (Or.inl (own_w hw 25 rfl)) Via.refl rfl (F_DELEGATES_ONWARD_number.ext old1.2) (g := (mkF m 24 #[.val (.long (2 : Int64)), .second, .val (.ref bv), .val (.int (3 : Int32)), .val (.int (0 : Int32)), .val (.ref a_DELEGATES_ONWARD)] [(.ref a_DELEGATES_ONWARD)])) rfl rfl (hb hby d1_24)
  refine own_go st2 ?_
  show own_Go p e below _ T2 (mkF m 27 #[.val (.long (2 : Int64)), .second, .val (.ref bv), .val (.int (3 : Int32)), .val (.int (0 : Int32)), .val (.ref a_DELEGATES_ONWARD)] [(.int (1 : Int32))])
  refine own_go (fun t k => XS.i2l X2.here hx rfl (hb hby d1_27) rfl k) ?_
  show own_Go p e below _ T2 (mkF m 28 #[.val (.long (2 : Int64)), .second, .val (.ref bv), .val (.int (3 : Int32)), .val (.int (0 : Int32)), .val (.ref a_DELEGATES_ONWARD)] [(.long (1 : Int32).toInt64)])
  rw [show (1 : Int32).toInt64 = (1 : Int64) from by decide]
  show own_Go p e below _ T2 (mkF m 28 #[.val (.long (2 : Int64)), .second, .val (.ref bv), .val (.int (3 : Int32)), .val (.int (0 : Int32)), .val (.ref a_DELEGATES_ONWARD)] [(.long (1 : Int64))])
  refine own_go (fun t k => XS.lloadN X2.here hx rfl (hb hby d1_28) rfl k) ?_
  show own_Go p e below _ T2 (mkF m 29 #[.val (.long (2 : Int64)), .second, .val (.ref bv), .val (.int (3 : Int32)), .val (.int (0 : Int32)), .val (.ref a_DELEGATES_ONWARD)] [(.long (2 : Int64)), (.long (1 : Int64))])
  refine own_go (fun t k => XT.lcmp X2.here hx rfl (hb hby d1_29) rfl k) ?_
  show own_Go p e below _ T2 (mkF m 30 #[.val (.long (2 : Int64)), .second, .val (.ref bv), .val (.int (3 : Int32)), .val (.int (0 : Int32)), .val (.ref a_DELEGATES_ONWARD)] [(.int (XT.cmpL (1 : Int64) (2 : Int64)))])
  refine own_go (fun t k => XS.ifYes X2.here hx rfl (pc0 := 30) (pc' := 36) rfl (hb hby d1_30) rfl (XT.ll_ne_t (by decide)) (by decide) (by decide) k) ?_
  show own_Go p e below _ T2 (mkF m 36 #[.val (.long (2 : Int64)), .second, .val (.ref bv), .val (.int (3 : Int32)), .val (.int (0 : Int32)), .val (.ref a_DELEGATES_ONWARD)] [])
  refine own_go (fun t k => XS.iinc X2.here hx rfl (hb hby d1_36) rfl (l' := #[.val (.long (2 : Int64)), .second, .val (.ref bv), .val (.int (3 : Int32)), .val (.int ((0 : Int32) + (1 : Int32))), .val (.ref a_DELEGATES_ONWARD)]) rfl k) ?_
  show own_Go p e below _ T2 (mkF m 39 #[.val (.long (2 : Int64)), .second, .val (.ref bv), .val (.int (3 : Int32)), .val (.int ((0 : Int32) + (1 : Int32))), .val (.ref a_DELEGATES_ONWARD)] [])
  rw [show ((0 : Int32) + (1 : Int32)) = (1 : Int32) from by decide]
  show own_Go p e below _ T2 (mkF m 39 #[.val (.long (2 : Int64)), .second, .val (.ref bv), .val (.int (3 : Int32)), .val (.int (1 : Int32)), .val (.ref a_DELEGATES_ONWARD)] [])
  refine own_go (fun t k => XS.goto X2.here hx rfl (pc0 := 39) (pc' := 10) rfl (hb hby d1_39) (by decide) (by decide) k) ?_
  show own_Go p e below _ T2 (mkF m 10 #[.val (.long (2 : Int64)), .second, .val (.ref bv), .val (.int (3 : Int32)), .val (.int (1 : Int32)), .val (.ref a_DELEGATES_ONWARD)] [])
  refine own_go (fun t k => XS.iload X2.here hx rfl (hb hby d1_10) rfl k) ?_
  show own_Go p e below _ T2 (mkF m 12 #[.val (.long (2 : Int64)), .second, .val (.ref bv), .val (.int (3 : Int32)), .val (.int (1 : Int32)), .val (.ref a_DELEGATES_ONWARD)] [(.int (1 : Int32))])
  refine own_go (fun t k => XS.iloadN X2.here hx rfl (hb hby d1_12) rfl k) ?_
  show own_Go p e below _ T2 (mkF m 13 #[.val (.long (2 : Int64)), .second, .val (.ref bv), .val (.int (3 : Int32)), .val (.int (1 : Int32)), .val (.ref a_DELEGATES_ONWARD)] [(.int (3 : Int32)), (.int (1 : Int32))])
  refine own_go (fun t k => XS.icmpNo X2.here hx rfl (hb hby d1_13) rfl (XT.ii_ge_f (by decide)) k) ?_
  show own_Go p e below _ T2 (mkF m 16 #[.val (.long (2 : Int64)), .second, .val (.ref bv), .val (.int (3 : Int32)), .val (.int (1 : Int32)), .val (.ref a_DELEGATES_ONWARD)] [])
  refine own_go (fun t k => XS.aloadN X2.here hx rfl (hb hby d1_16) rfl rfl k) ?_
  show own_Go p e below _ T2 (mkF m 17 #[.val (.long (2 : Int64)), .second, .val (.ref bv), .val (.int (3 : Int32)), .val (.int (1 : Int32)), .val (.ref a_DELEGATES_ONWARD)] [(.ref bv)])
  refine own_go (fun t k => XS.iload X2.here hx rfl (hb hby d1_17) rfl k) ?_
  show own_Go p e below _ T2 (mkF m 19 #[.val (.long (2 : Int64)), .second, .val (.ref bv), .val (.int (3 : Int32)), .val (.int (1 : Int32)), .val (.ref a_DELEGATES_ONWARD)] [(.int (1 : Int32)), (.ref bv)])
  refine own_go (own_ldR X2 hx hZ e2 (Ls := #[.val (.long (2 : Int64)), .second, .val (.ref bv), .val (.int (3 : Int32)), .val (.int (1 : Int32)), .val (.ref a_DELEGATES_ONWARD)]) (rest := []) Vv rfl (j := (1 : Int32)) (by decide) (v := (.ref a_DELEGATES)) rfl (hb hby d1_19)) ?_
  show own_Go p e below _ T2 (mkF m 20 #[.val (.long (2 : Int64)), .second, .val (.ref bv), .val (.int (3 : Int32)), .val (.int (1 : Int32)), .val (.ref a_DELEGATES_ONWARD)] [(.ref a_DELEGATES)])
  refine own_go (fun t k => XS.astore X2.here hx rfl (hb hby d1_20) rfl rfl (l' := #[.val (.long (2 : Int64)), .second, .val (.ref bv), .val (.int (3 : Int32)), .val (.int (1 : Int32)), .val (.ref a_DELEGATES)]) rfl k) ?_
  show own_Go p e below _ T2 (mkF m 22 #[.val (.long (2 : Int64)), .second, .val (.ref bv), .val (.int (3 : Int32)), .val (.int (1 : Int32)), .val (.ref a_DELEGATES)] [])
  refine own_go (fun t k => XS.aload X2.here hx rfl (hb hby d1_22) rfl rfl k) ?_
  show own_Go p e below _ T2 (mkF m 24 #[.val (.long (2 : Int64)), .second, .val (.ref bv), .val (.int (3 : Int32)), .val (.int (1 : Int32)), .val (.ref a_DELEGATES)] [(.ref a_DELEGATES)])
  obtain ⟨T3, X3, e3, st3⟩ := getF X2 hx hZ hown (host := "") (Or.inl (own_w hw 25 rfl)) Via.refl e2 (F_DELEGATES_number.ext old1.2) (g := (mkF m 24 #[.val (.long (2 : Int64)), .second, .val (.ref bv), .val (.int (3 : Int32)), .val (.int (1 : Int32)), .val (.ref a_DELEGATES)] [(.ref a_DELEGATES)])) rfl rfl (hb hby d1_24)
  refine own_go st3 ?_
  show own_Go p e below _ T3 (mkF m 27 #[.val (.long (2 : Int64)), .second, .val (.ref bv), .val (.int (3 : Int32)), .val (.int (1 : Int32)), .val (.ref a_DELEGATES)] [(.int (2 : Int32))])
  refine own_go (fun t k => XS.i2l X3.here hx rfl (hb hby d1_27) rfl k) ?_
  show own_Go p e below _ T3 (mkF m 28 #[.val (.long (2 : Int64)), .second, .val (.ref bv), .val (.int (3 : Int32)), .val (.int (1 : Int32)), .val (.ref a_DELEGATES)] [(.long (2 : Int32).toInt64)])
  rw [show (2 : Int32).toInt64 = (2 : Int64) from by decide]
  show own_Go p e below _ T3 (mkF m 28 #[.val (.long (2 : Int64)), .second, .val (.ref bv), .val (.int (3 : Int32)), .val (.int (1 : Int32)), .val (.ref a_DELEGATES)] [(.long (2 : Int64))])
  refine own_go (fun t k => XS.lloadN X3.here hx rfl (hb hby d1_28) rfl k) ?_
  show own_Go p e below _ T3 (mkF m 29 #[.val (.long (2 : Int64)), .second, .val (.ref bv), .val (.int (3 : Int32)), .val (.int (1 : Int32)), .val (.ref a_DELEGATES)] [(.long (2 : Int64)), (.long (2 : Int64))])
  refine own_go (fun t k => XT.lcmp X3.here hx rfl (hb hby d1_29) rfl k) ?_
  show own_Go p e below _ T3 (mkF m 30 #[.val (.long (2 : Int64)), .second, .val (.ref bv), .val (.int (3 : Int32)), .val (.int (1 : Int32)), .val (.ref a_DELEGATES)] [(.int (XT.cmpL (2 : Int64) (2 : Int64)))])
  refine own_go (fun t k => XS.ifNo X3.here hx rfl (hb hby d1_30) rfl (XT.ll_ne_f (by decide)) k) ?_
  show own_Go p e below _ T3 (mkF m 33 #[.val (.long (2 : Int64)), .second, .val (.ref bv), .val (.int (3 : Int32)), .val (.int (1 : Int32)), .val (.ref a_DELEGATES)] [])
  refine own_go (fun t k => XS.aload X3.here hx rfl (hb hby d1_33) rfl rfl k) ?_
  show own_Go p e below _ T3 (mkF m 35 #[.val (.long (2 : Int64)), .second, .val (.ref bv), .val (.int (3 : Int32)), .val (.int (1 : Int32)), .val (.ref a_DELEGATES)] [(.ref a_DELEGATES)])
  refine own_retA X3 hx hlk hret (hb hby d1_35) rfl rfl (by decide) (by decide) ?_
  exact ⟨rfl, by rw [e3]; exact old1, M1⟩
set_option maxRecDepth 65536 in
set_option maxHeartbeats 40000000 in
theorem rmO_3 (l : Launch) (Z : State) (a0 : Array Value) (hw : ∀ d ∈ tables_1, d.before a0 Z = true) (ws : List Jvm.Cond) (a_DELEGATES_ONWARD : Addr) (a_SVALUES : Addr) (a_DELEGATES : Addr) (a_HOLDS : Addr) (kv : ClassId) (h0 : Heap) (n0 : Nat) (Z0 : n0 ≤ h0.size) (O0 : Old Z n0 h0) (S_DELEGATES_ONWARD : Sta Z Z.heap "com/example/tallygate/tallygate/policy/ConditionCertificate$Type" "DELEGATES_ONWARD" "Lcom/example/tallygate/tallygate/policy/ConditionCertificate$Type;" (.ref a_DELEGATES_ONWARD)) (E_DELEGATES_ONWARD : Exa Z Z.heap a_DELEGATES_ONWARD "com/example/tallygate/tallygate/policy/ConditionCertificate$Type") (S_SVALUES : Sta Z Z.heap "com/example/tallygate/tallygate/policy/ConditionCertificate$Type" "$VALUES" "[Lcom/example/tallygate/tallygate/policy/ConditionCertificate$Type;" (.ref a_SVALUES)) (E_SVALUES : Exa Z Z.heap a_SVALUES "[Lcom/example/tallygate/tallygate/policy/ConditionCertificate$Type;") (S_DELEGATES : Sta Z Z.heap "com/example/tallygate/tallygate/policy/ConditionCertificate$Type" "DELEGATES" "Lcom/example/tallygate/tallygate/policy/ConditionCertificate$Type;" (.ref a_DELEGATES)) (E_DELEGATES : Exa Z Z.heap a_DELEGATES "com/example/tallygate/tallygate/policy/ConditionCertificate$Type") (S_HOLDS : Sta Z Z.heap "com/example/tallygate/tallygate/policy/ConditionCertificate$Type" "HOLDS" "Lcom/example/tallygate/tallygate/policy/ConditionCertificate$Type;" (.ref a_HOLDS)) (E_HOLDS : Exa Z Z.heap a_HOLDS "com/example/tallygate/tallygate/policy/ConditionCertificate$Type") (F_DELEGATES_ONWARD_number : Fld Z Z.heap a_DELEGATES_ONWARD "com/example/tallygate/tallygate/policy/ConditionCertificate$Type" "number" "I" (.int (1 : Int32))) (F_DELEGATES_number : Fld Z Z.heap a_DELEGATES "com/example/tallygate/tallygate/policy/ConditionCertificate$Type" "number" "I" (.int (2 : Int32))) (F_HOLDS_number : Fld Z Z.heap a_HOLDS "com/example/tallygate/tallygate/policy/ConditionCertificate$Type" "number" "I" (.int (3 : Int32))) (V_VAL : Arv Z Z.heap a_SVALUES kv (.object "com/example/tallygate/tallygate/policy/ConditionCertificate$Type") (3 : Int32) [(.ref a_DELEGATES_ONWARD), (.ref a_DELEGATES), (.ref a_HOLDS)] .null) :
    own_Met l Z (⟨"com/example/tallygate/tallygate/policy/ConditionCertificate$Type", "of", "(J)Lcom/example/tallygate/tallygate/policy/ConditionCertificate$Type;"⟩ : MethodName) prog_19_method_5_code 6 (some (.object "com/example/tallygate/tallygate/policy/ConditionCertificate$Type")) ws ({ frames := 2, cells := 1, slots := 3, locals := 25 } : Room) #[(.long (3 : Int64))] h0 (fun v h L => v = some (.ref a_HOLDS) ∧ Old Z n0 h ∧ Fr n0 L) := by
  refine own_body (by first | exact plainFor_of_name pn_com_example_tallygate_tallygate_policy_ConditionCertificate_Type | decide +kernel) ?_
  intro p e s m below meth c T0 X0 hx hby hml hret hlk hZ hown hnm e0
  have hown : s.vm.findClass "com/example/tallygate/tallygate/policy/ConditionCertificate$Type" = some m.cls := hown
  have hnm : meth.name = "of" := hnm
  have N0 := Fr.nil n0
  rw [ef_1 m (3 : Int64)]
  show own_Go p e below _ T0 (mkF m 0 #[.val (.long (3 : Int64)), .second, .unset, .unset, .unset, .unset] [])
  obtain ⟨_, T1, L1, X1, ⟨⟨bv, rfl, old1, Vv⟩, N1⟩, st1⟩ := own_callS X0 hx hZ (y := (⟨"com/example/tallygate/tallygate/policy/ConditionCertificate$Type", "values", "()[Lcom/example/tallygate/tallygate/policy/ConditionCertificate$Type;"⟩ : MethodName)) (argsL := []) (rest := []) (Ls := #[.val (.long (3 : Int64)), .second, .unset, .unset, .unset, .unset]) hown (own_w hw 8 rfl) (own_w hw 9 rfl) (own_w hw 3 rfl) (own_w hw 10 rfl) (by decide) e0 (rmV l Z a0 hw [] a_DELEGATES_ONWARD a_SVALUES a_DELEGATES a_HOLDS kv h0 n0 (own_oldge O0) O0 S_DELEGATES_ONWARD E_DELEGATES_ONWARD S_SVALUES E_SVALUES S_DELEGATES E_DELEGATES S_HOLDS E_HOLDS F_DELEGATES_ONWARD_number F_DELEGATES_number F_HOLDS_number V_VAL) 0 (by decide) (by decide) (by decide) (by decide) (by rw [hml]; rfl) (lenOf pd_2 rfl) rfl (Nat.le_of_eq rfl) (hb hby d1_0)
  have M1 := Fr.app N0 N1
  refine own_go st1 ?_
  show own_Go p e below _ T1 (mkF m 3 #[.val (.long (3 : Int64)), .second, .unset, .unset, .unset, .unset] [(.ref bv)])
  refine own_go (fun t k => XS.astoreN X1.here hx rfl (hb hby d1_3) rfl rfl (l' := #[.val (.long (3 : Int64)), .second, .val (.ref bv), .unset, .unset, .unset]) rfl k) ?_
  show own_Go p e below _ T1 (mkF m 4 #[.val (.long (3 : Int64)), .second, .val (.ref bv), .unset, .unset, .unset] [])
  refine own_go (fun t k => XS.aloadN X1.here hx rfl (hb hby d1_4) rfl rfl k) ?_
  show own_Go p e below _ T1 (mkF m 5 #[.val (.long (3 : Int64)), .second, .val (.ref bv), .unset, .unset, .unset] [(.ref bv)])
  refine own_go (own_len X1 hx hZ rfl (Ls := #[.val (.long (3 : Int64)), .second, .val (.ref bv), .unset, .unset, .unset]) (rest := []) Vv (hb hby d1_5)) ?_
  show own_Go p e below _ T1 (mkF m 6 #[.val (.long (3 : Int64)), .second, .val (.ref bv), .unset, .unset, .unset] [(.int (3 : Int32))])
  refine own_go (fun t k => XS.istoreN X1.here hx rfl (hb hby d1_6) rfl (l' := #[.val (.long (3 : Int64)), .second, .val (.ref bv), .val (.int (3 : Int32)), .unset, .unset]) rfl k) ?_
  show own_Go p e below _ T1 (mkF m 7 #[.val (.long (3 : Int64)), .second, .val (.ref bv), .val (.int (3 : Int32)), .unset, .unset] [])
  refine own_go (fun t k => XS.iconst X1.here hx rfl (hb hby d1_7) k) ?_
  show own_Go p e below _ T1 (mkF m 8 #[.val (.long (3 : Int64)), .second, .val (.ref bv), .val (.int (3 : Int32)), .unset, .unset] [(.int (0 : Int32))])
  refine own_go (fun t k => XS.istore X1.here hx rfl (hb hby d1_8) rfl (l' := #[.val (.long (3 : Int64)), .second, .val (.ref bv), .val (.int (3 : Int32)), .val (.int (0 : Int32)), .unset]) rfl k) ?_
  show own_Go p e below _ T1 (mkF m 10 #[.val (.long (3 : Int64)), .second, .val (.ref bv), .val (.int (3 : Int32)), .val (.int (0 : Int32)), .unset] [])
  refine own_go (fun t k => XS.iload X1.here hx rfl (hb hby d1_10) rfl k) ?_
  show own_Go p e below _ T1 (mkF m 12 #[.val (.long (3 : Int64)), .second, .val (.ref bv), .val (.int (3 : Int32)), .val (.int (0 : Int32)), .unset] [(.int (0 : Int32))])
  refine own_go (fun t k => XS.iloadN X1.here hx rfl (hb hby d1_12) rfl k) ?_
  show own_Go p e below _ T1 (mkF m 13 #[.val (.long (3 : Int64)), .second, .val (.ref bv), .val (.int (3 : Int32)), .val (.int (0 : Int32)), .unset] [(.int (3 : Int32)), (.int (0 : Int32))])
  refine own_go (fun t k => XS.icmpNo X1.here hx rfl (hb hby d1_13) rfl (XT.ii_ge_f (by decide)) k) ?_
  show own_Go p e below _ T1 (mkF m 16 #[.val (.long (3 : Int64)), .second, .val (.ref bv), .val (.int (3 : Int32)), .val (.int (0 : Int32)), .unset] [])
  refine own_go (fun t k => XS.aloadN X1.here hx rfl (hb hby d1_16) rfl rfl k) ?_
  show own_Go p e below _ T1 (mkF m 17 #[.val (.long (3 : Int64)), .second, .val (.ref bv), .val (.int (3 : Int32)), .val (.int (0 : Int32)), .unset] [(.ref bv)])
  refine own_go (fun t k => XS.iload X1.here hx rfl (hb hby d1_17) rfl k) ?_
  show own_Go p e below _ T1 (mkF m 19 #[.val (.long (3 : Int64)), .second, .val (.ref bv), .val (.int (3 : Int32)), .val (.int (0 : Int32)), .unset] [(.int (0 : Int32)), (.ref bv)])
  refine own_go (own_ldR X1 hx hZ rfl (Ls := #[.val (.long (3 : Int64)), .second, .val (.ref bv), .val (.int (3 : Int32)), .val (.int (0 : Int32)), .unset]) (rest := []) Vv rfl (j := (0 : Int32)) (by decide) (v := (.ref a_DELEGATES_ONWARD)) rfl (hb hby d1_19)) ?_
  show own_Go p e below _ T1 (mkF m 20 #[.val (.long (3 : Int64)), .second, .val (.ref bv), .val (.int (3 : Int32)), .val (.int (0 : Int32)), .unset] [(.ref a_DELEGATES_ONWARD)])
  refine own_go (fun t k => XS.astore X1.here hx rfl (hb hby d1_20) rfl rfl (l' := #[.val (.long (3 : Int64)), .second, .val (.ref bv), .val (.int (3 : Int32)), .val (.int (0 : Int32)), .val (.ref a_DELEGATES_ONWARD)]) rfl k) ?_
  show own_Go p e below _ T1 (mkF m 22 #[.val (.long (3 : Int64)), .second, .val (.ref bv), .val (.int (3 : Int32)), .val (.int (0 : Int32)), .val (.ref a_DELEGATES_ONWARD)] [])
  refine own_go (fun t k => XS.aload X1.here hx rfl (hb hby d1_22) rfl rfl k) ?_
  show own_Go p e below _ T1 (mkF m 24 #[.val (.long (3 : Int64)), .second, .val (.ref bv), .val (.int (3 : Int32)), .val (.int (0 : Int32)), .val (.ref a_DELEGATES_ONWARD)] [(.ref a_DELEGATES_ONWARD)])
  obtain ⟨T2, X2, e2, st2⟩ := getF X1 hx hZ hown (host := "") (Or.inl (own_w hw 25 rfl)) Via.refl rfl (F_DELEGATES_ONWARD_number.ext old1.2) (g := (mkF m 24 #[.val (.long (3 : Int64)), .second, .val (.ref bv), .val (.int (3 : Int32)), .val (.int (0 : Int32)), .val (.ref a_DELEGATES_ONWARD)] [(.ref a_DELEGATES_ONWARD)])) rfl rfl (hb hby d1_24)
  refine own_go st2 ?_
  show own_Go p e below _ T2 (mkF m 27 #[.val (.long (3 : Int64)), .second, .val (.ref bv), .val (.int (3 : Int32)), .val (.int (0 : Int32)), .val (.ref a_DELEGATES_ONWARD)] [(.int (1 : Int32))])
  refine own_go (fun t k => XS.i2l X2.here hx rfl (hb hby d1_27) rfl k) ?_
  show own_Go p e below _ T2 (mkF m 28 #[.val (.long (3 : Int64)), .second, .val (.ref bv), .val (.int (3 : Int32)), .val (.int (0 : Int32)), .val (.ref a_DELEGATES_ONWARD)] [(.long (1 : Int32).toInt64)])
  rw [show (1 : Int32).toInt64 = (1 : Int64) from by decide]
  show own_Go p e below _ T2 (mkF m 28 #[.val (.long (3 : Int64)), .second, .val (.ref bv), .val (.int (3 : Int32)), .val (.int (0 : Int32)), .val (.ref a_DELEGATES_ONWARD)] [(.long (1 : Int64))])
  refine own_go (fun t k => XS.lloadN X2.here hx rfl (hb hby d1_28) rfl k) ?_
  show own_Go p e below _ T2 (mkF m 29 #[.val (.long (3 : Int64)), .second, .val (.ref bv), .val (.int (3 : Int32)), .val (.int (0 : Int32)), .val (.ref a_DELEGATES_ONWARD)] [(.long (3 : Int64)), (.long (1 : Int64))])
  refine own_go (fun t k => XT.lcmp X2.here hx rfl (hb hby d1_29) rfl k) ?_
  show own_Go p e below _ T2 (mkF m 30 #[.val (.long (3 : Int64)), .second, .val (.ref bv), .val (.int (3 : Int32)), .val (.int (0 : Int32)), .val (.ref a_DELEGATES_ONWARD)] [(.int (XT.cmpL (1 : Int64) (3 : Int64)))])
  refine own_go (fun t k => XS.ifYes X2.here hx rfl (pc0 := 30) (pc' := 36) rfl (hb hby d1_30) rfl (XT.ll_ne_t (by decide)) (by decide) (by decide) k) ?_
  show own_Go p e below _ T2 (mkF m 36 #[.val (.long (3 : Int64)), .second, .val (.ref bv), .val (.int (3 : Int32)), .val (.int (0 : Int32)), .val (.ref a_DELEGATES_ONWARD)] [])
  refine own_go (fun t k => XS.iinc X2.here hx rfl (hb hby d1_36) rfl (l' := #[.val (.long (3 : Int64)), .second, .val (.ref bv), .val (.int (3 : Int32)), .val (.int ((0 : Int32) + (1 : Int32))), .val (.ref a_DELEGATES_ONWARD)]) rfl k) ?_
  show own_Go p e below _ T2 (mkF m 39 #[.val (.long (3 : Int64)), .second, .val (.ref bv), .val (.int (3 : Int32)), .val (.int ((0 : Int32) + (1 : Int32))), .val (.ref a_DELEGATES_ONWARD)] [])
  rw [show ((0 : Int32) + (1 : Int32)) = (1 : Int32) from by decide]
  show own_Go p e below _ T2 (mkF m 39 #[.val (.long (3 : Int64)), .second, .val (.ref bv), .val (.int (3 : Int32)), .val (.int (1 : Int32)), .val (.ref a_DELEGATES_ONWARD)] [])
  refine own_go (fun t k => XS.goto X2.here hx rfl (pc0 := 39) (pc' := 10) rfl (hb hby d1_39) (by decide) (by decide) k) ?_
  show own_Go p e below _ T2 (mkF m 10 #[.val (.long (3 : Int64)), .second, .val (.ref bv), .val (.int (3 : Int32)), .val (.int (1 : Int32)), .val (.ref a_DELEGATES_ONWARD)] [])
  refine own_go (fun t k => XS.iload X2.here hx rfl (hb hby d1_10) rfl k) ?_
  show own_Go p e below _ T2 (mkF m 12 #[.val (.long (3 : Int64)), .second, .val (.ref bv), .val (.int (3 : Int32)), .val (.int (1 : Int32)), .val (.ref a_DELEGATES_ONWARD)] [(.int (1 : Int32))])
  refine own_go (fun t k => XS.iloadN X2.here hx rfl (hb hby d1_12) rfl k) ?_
  show own_Go p e below _ T2 (mkF m 13 #[.val (.long (3 : Int64)), .second, .val (.ref bv), .val (.int (3 : Int32)), .val (.int (1 : Int32)), .val (.ref a_DELEGATES_ONWARD)] [(.int (3 : Int32)), (.int (1 : Int32))])
  refine own_go (fun t k => XS.icmpNo X2.here hx rfl (hb hby d1_13) rfl (XT.ii_ge_f (by decide)) k) ?_
  show own_Go p e below _ T2 (mkF m 16 #[.val (.long (3 : Int64)), .second, .val (.ref bv), .val (.int (3 : Int32)), .val (.int (1 : Int32)), .val (.ref a_DELEGATES_ONWARD)] [])
  refine own_go (fun t k => XS.aloadN X2.here hx rfl (hb hby d1_16) rfl rfl k) ?_
  show own_Go p e below _ T2 (mkF m 17 #[.val (.long (3 : Int64)), .second, .val (.ref bv), .val (.int (3 : Int32)), .val (.int (1 : Int32)), .val (.ref a_DELEGATES_ONWARD)] [(.ref bv)])
  refine own_go (fun t k => XS.iload X2.here hx rfl (hb hby d1_17) rfl k) ?_
  show own_Go p e below _ T2 (mkF m 19 #[.val (.long (3 : Int64)), .second, .val (.ref bv), .val (.int (3 : Int32)), .val (.int (1 : Int32)), .val (.ref a_DELEGATES_ONWARD)] [(.int (1 : Int32)), (.ref bv)])
  refine own_go (own_ldR X2 hx hZ e2 (Ls := #[.val (.long (3 : Int64)), .second, .val (.ref bv), .val (.int (3 : Int32)), .val (.int (1 : Int32)), .val (.ref a_DELEGATES_ONWARD)]) (rest := []) Vv rfl (j := (1 : Int32)) (by decide) (v := (.ref a_DELEGATES)) rfl (hb hby d1_19)) ?_
  show own_Go p e below _ T2 (mkF m 20 #[.val (.long (3 : Int64)), .second, .val (.ref bv), .val (.int (3 : Int32)), .val (.int (1 : Int32)), .val (.ref a_DELEGATES_ONWARD)] [(.ref a_DELEGATES)])
  refine own_go (fun t k => XS.astore X2.here hx rfl (hb hby d1_20) rfl rfl (l' := #[.val (.long (3 : Int64)), .second, .val (.ref bv), .val (.int (3 : Int32)), .val (.int (1 : Int32)), .val (.ref a_DELEGATES)]) rfl k) ?_
  show own_Go p e below _ T2 (mkF m 22 #[.val (.long (3 : Int64)), .second, .val (.ref bv), .val (.int (3 : Int32)), .val (.int (1 : Int32)), .val (.ref a_DELEGATES)] [])
  refine own_go (fun t k => XS.aload X2.here hx rfl (hb hby d1_22) rfl rfl k) ?_
  show own_Go p e below _ T2 (mkF m 24 #[.val (.long (3 : Int64)), .second, .val (.ref bv), .val (.int (3 : Int32)), .val (.int (1 : Int32)), .val (.ref a_DELEGATES)] [(.ref a_DELEGATES)])
  obtain ⟨T3, X3, e3, st3⟩ := getF X2 hx hZ hown (host := "") (Or.inl (own_w hw 25 rfl)) Via.refl e2 (F_DELEGATES_number.ext old1.2) (g := (mkF m 24 #[.val (.long (3 : Int64)), .second, .val (.ref bv), .val (.int (3 : Int32)), .val (.int (1 : Int32)), .val (.ref a_DELEGATES)] [(.ref a_DELEGATES)])) rfl rfl (hb hby d1_24)
  refine own_go st3 ?_
  show own_Go p e below _ T3 (mkF m 27 #[.val (.long (3 : Int64)), .second, .val (.ref bv), .val (.int (3 : Int32)), .val (.int (1 : Int32)), .val (.ref a_DELEGATES)] [(.int (2 : Int32))])
  refine own_go (fun t k => XS.i2l X3.here hx rfl (hb hby d1_27) rfl k) ?_
  show own_Go p e below _ T3 (mkF m 28 #[.val (.long (3 : Int64)), .second, .val (.ref bv), .val (.int (3 : Int32)), .val (.int (1 : Int32)), .val (.ref a_DELEGATES)] [(.long (2 : Int32).toInt64)])
  rw [show (2 : Int32).toInt64 = (2 : Int64) from by decide]
  show own_Go p e below _ T3 (mkF m 28 #[.val (.long (3 : Int64)), .second, .val (.ref bv), .val (.int (3 : Int32)), .val (.int (1 : Int32)), .val (.ref a_DELEGATES)] [(.long (2 : Int64))])
  refine own_go (fun t k => XS.lloadN X3.here hx rfl (hb hby d1_28) rfl k) ?_
  show own_Go p e below _ T3 (mkF m 29 #[.val (.long (3 : Int64)), .second, .val (.ref bv), .val (.int (3 : Int32)), .val (.int (1 : Int32)), .val (.ref a_DELEGATES)] [(.long (3 : Int64)), (.long (2 : Int64))])
  refine own_go (fun t k => XT.lcmp X3.here hx rfl (hb hby d1_29) rfl k) ?_
  show own_Go p e below _ T3 (mkF m 30 #[.val (.long (3 : Int64)), .second, .val (.ref bv), .val (.int (3 : Int32)), .val (.int (1 : Int32)), .val (.ref a_DELEGATES)] [(.int (XT.cmpL (2 : Int64) (3 : Int64)))])
  refine own_go (fun t k => XS.ifYes X3.here hx rfl (pc0 := 30) (pc' := 36) rfl (hb hby d1_30) rfl (XT.ll_ne_t (by decide)) (by decide) (by decide) k) ?_
  show own_Go p e below _ T3 (mkF m 36 #[.val (.long (3 : Int64)), .second, .val (.ref bv), .val (.int (3 : Int32)), .val (.int (1 : Int32)), .val (.ref a_DELEGATES)] [])
  refine own_go (fun t k => XS.iinc X3.here hx rfl (hb hby d1_36) rfl (l' := #[.val (.long (3 : Int64)), .second, .val (.ref bv), .val (.int (3 : Int32)), .val (.int ((1 : Int32) + (1 : Int32))), .val (.ref a_DELEGATES)]) rfl k) ?_
  show own_Go p e below _ T3 (mkF m 39 #[.val (.long (3 : Int64)), .second, .val (.ref bv), .val (.int (3 : Int32)), .val (.int ((1 : Int32) + (1 : Int32))), .val (.ref a_DELEGATES)] [])
  rw [show ((1 : Int32) + (1 : Int32)) = (2 : Int32) from by decide]
  show own_Go p e below _ T3 (mkF m 39 #[.val (.long (3 : Int64)), .second, .val (.ref bv), .val (.int (3 : Int32)), .val (.int (2 : Int32)), .val (.ref a_DELEGATES)] [])
  refine own_go (fun t k => XS.goto X3.here hx rfl (pc0 := 39) (pc' := 10) rfl (hb hby d1_39) (by decide) (by decide) k) ?_
  show own_Go p e below _ T3 (mkF m 10 #[.val (.long (3 : Int64)), .second, .val (.ref bv), .val (.int (3 : Int32)), .val (.int (2 : Int32)), .val (.ref a_DELEGATES)] [])
  refine own_go (fun t k => XS.iload X3.here hx rfl (hb hby d1_10) rfl k) ?_
  show own_Go p e below _ T3 (mkF m 12 #[.val (.long (3 : Int64)), .second, .val (.ref bv), .val (.int (3 : Int32)), .val (.int (2 : Int32)), .val (.ref a_DELEGATES)] [(.int (2 : Int32))])
  refine own_go (fun t k => XS.iloadN X3.here hx rfl (hb hby d1_12) rfl k) ?_
  show own_Go p e below _ T3 (mkF m 13 #[.val (.long (3 : Int64)), .second, .val (.ref bv), .val (.int (3 : Int32)), .val (.int (2 : Int32)), .val (.ref a_DELEGATES)] [(.int (3 : Int32)), (.int (2 : Int32))])
  refine own_go (fun t k => XS.icmpNo X3.here hx rfl (hb hby d1_13) rfl (XT.ii_ge_f (by decide)) k) ?_
  show own_Go p e below _ T3 (mkF m 16 #[.val (.long (3 : Int64)), .second, .val (.ref bv), .val (.int (3 : Int32)), .val (.int (2 : Int32)), .val (.ref a_DELEGATES)] [])
  refine own_go (fun t k => XS.aloadN X3.here hx rfl (hb hby d1_16) rfl rfl k) ?_
  show own_Go p e below _ T3 (mkF m 17 #[.val (.long (3 : Int64)), .second, .val (.ref bv), .val (.int (3 : Int32)), .val (.int (2 : Int32)), .val (.ref a_DELEGATES)] [(.ref bv)])
  refine own_go (fun t k => XS.iload X3.here hx rfl (hb hby d1_17) rfl k) ?_
  show own_Go p e below _ T3 (mkF m 19 #[.val (.long (3 : Int64)), .second, .val (.ref bv), .val (.int (3 : Int32)), .val (.int (2 : Int32)), .val (.ref a_DELEGATES)] [(.int (2 : Int32)), (.ref bv)])
  refine own_go (own_ldR X3 hx hZ e3 (Ls := #[.val (.long (3 : Int64)), .second, .val (.ref bv), .val (.int (3 : Int32)), .val (.int (2 : Int32)), .val (.ref a_DELEGATES)]) (rest := []) Vv rfl (j := (2 : Int32)) (by decide) (v := (.ref a_HOLDS)) rfl (hb hby d1_19)) ?_
  show own_Go p e below _ T3 (mkF m 20 #[.val (.long (3 : Int64)), .second, .val (.ref bv), .val (.int (3 : Int32)), .val (.int (2 : Int32)), .val (.ref a_DELEGATES)] [(.ref a_HOLDS)])
  refine own_go (fun t k => XS.astore X3.here hx rfl (hb hby d1_20) rfl rfl (l' := #[.val (.long (3 : Int64)), .second, .val (.ref bv), .val (.int (3 : Int32)), .val (.int (2 : Int32)), .val (.ref a_HOLDS)]) rfl k) ?_
  show own_Go p e below _ T3 (mkF m 22 #[.val (.long (3 : Int64)), .second, .val (.ref bv), .val (.int (3 : Int32)), .val (.int (2 : Int32)), .val (.ref a_HOLDS)] [])
  refine own_go (fun t k => XS.aload X3.here hx rfl (hb hby d1_22) rfl rfl k) ?_
  show own_Go p e below _ T3 (mkF m 24 #[.val (.long (3 : Int64)), .second, .val (.ref bv), .val (.int (3 : Int32)), .val (.int (2 : Int32)), .val (.ref a_HOLDS)] [(.ref a_HOLDS)])
  obtain ⟨T4, X4, e4, st4⟩ := getF X3 hx hZ hown (host := "") (Or.inl (own_w hw 25 rfl)) Via.refl e3 (F_HOLDS_number.ext old1.2) (g := (mkF m 24 #[.val (.long (3 : Int64)), .second, .val (.ref bv), .val (.int (3 : Int32)), .val (.int (2 : Int32)), .val (.ref a_HOLDS)] [(.ref a_HOLDS)])) rfl rfl (hb hby d1_24)
  refine own_go st4 ?_
  show own_Go p e below _ T4 (mkF m 27 #[.val (.long (3 : Int64)), .second, .val (.ref bv), .val (.int (3 : Int32)), .val (.int (2 : Int32)), .val (.ref a_HOLDS)] [(.int (3 : Int32))])
  refine own_go (fun t k => XS.i2l X4.here hx rfl (hb hby d1_27) rfl k) ?_
  show own_Go p e below _ T4 (mkF m 28 #[.val (.long (3 : Int64)), .second, .val (.ref bv), .val (.int (3 : Int32)), .val (.int (2 : Int32)), .val (.ref a_HOLDS)] [(.long (3 : Int32).toInt64)])
  rw [show (3 : Int32).toInt64 = (3 : Int64) from by decide]
  show own_Go p e below _ T4 (mkF m 28 #[.val (.long (3 : Int64)), .second, .val (.ref bv), .val (.int (3 : Int32)), .val (.int (2 : Int32)), .val (.ref a_HOLDS)] [(.long (3 : Int64))])
  refine own_go (fun t k => XS.lloadN X4.here hx rfl (hb hby d1_28) rfl k) ?_
  show own_Go p e below _ T4 (mkF m 29 #[.val (.long (3 : Int64)), .second, .val (.ref bv), .val (.int (3 : Int32)), .val (.int (2 : Int32)), .val (.ref a_HOLDS)] [(.long (3 : Int64)), (.long (3 : Int64))])
  refine own_go (fun t k => XT.lcmp X4.here hx rfl (hb hby d1_29) rfl k) ?_
  show own_Go p e below _ T4 (mkF m 30 #[.val (.long (3 : Int64)), .second, .val (.ref bv), .val (.int (3 : Int32)), .val (.int (2 : Int32)), .val (.ref a_HOLDS)] [(.int (XT.cmpL (3 : Int64) (3 : Int64)))])
  refine own_go (fun t k => XS.ifNo X4.here hx rfl (hb hby d1_30) rfl (XT.ll_ne_f (by decide)) k) ?_
  show own_Go p e below _ T4 (mkF m 33 #[.val (.long (3 : Int64)), .second, .val (.ref bv), .val (.int (3 : Int32)), .val (.int (2 : Int32)), .val (.ref a_HOLDS)] [])
  refine own_go (fun t k => XS.aload X4.here hx rfl (hb hby d1_33) rfl rfl k) ?_
  show own_Go p e below _ T4 (mkF m 35 #[.val (.long (3 : Int64)), .second, .val (.ref bv), .val (.int (3 : Int32)), .val (.int (2 : Int32)), .val (.ref a_HOLDS)] [(.ref a_HOLDS)])
  refine own_retA X4 hx hlk hret (hb hby d1_35) rfl rfl (by decide) (by decide) ?_
  exact ⟨rfl, by rw [e4]; exact old1, M1⟩
set_option maxRecDepth 65536 in
set_option maxHeartbeats 40000000 in
theorem rm0 (l : Launch) (Z : State) (a0 : Array Value) (hw : ∀ d ∈ tables_1, d.before a0 Z = true) (ws : List Jvm.Cond) (p1 : Int64) (a_DELEGATES_ONWARD : Addr) (a_SVALUES : Addr) (a_DELEGATES : Addr) (a_HOLDS : Addr) (kv : ClassId) (h0 : Heap) (n0 : Nat) (Z0 : n0 ≤ h0.size) (O0 : Old Z n0 h0) (S_DELEGATES_ONWARD : Sta Z Z.heap "com/example/tallygate/tallygate/policy/ConditionCertificate$Type" "DELEGATES_ONWARD" "Lcom/example/tallygate/tallygate/policy/ConditionCertificate$Type;" (.ref a_DELEGATES_ONWARD)) (E_DELEGATES_ONWARD : Exa Z Z.heap a_DELEGATES_ONWARD "com/example/tallygate/tallygate/policy/ConditionCertificate$Type") (S_SVALUES : Sta Z Z.heap "com/example/tallygate/tallygate/policy/ConditionCertificate$Type" "$VALUES" "[Lcom/example/tallygate/tallygate/policy/ConditionCertificate$Type;" (.ref a_SVALUES)) (E_SVALUES : Exa Z Z.heap a_SVALUES "[Lcom/example/tallygate/tallygate/policy/ConditionCertificate$Type;") (S_DELEGATES : Sta Z Z.heap "com/example/tallygate/tallygate/policy/ConditionCertificate$Type" "DELEGATES" "Lcom/example/tallygate/tallygate/policy/ConditionCertificate$Type;" (.ref a_DELEGATES)) (E_DELEGATES : Exa Z Z.heap a_DELEGATES "com/example/tallygate/tallygate/policy/ConditionCertificate$Type") (S_HOLDS : Sta Z Z.heap "com/example/tallygate/tallygate/policy/ConditionCertificate$Type" "HOLDS" "Lcom/example/tallygate/tallygate/policy/ConditionCertificate$Type;" (.ref a_HOLDS)) (E_HOLDS : Exa Z Z.heap a_HOLDS "com/example/tallygate/tallygate/policy/ConditionCertificate$Type") (F_DELEGATES_ONWARD_number : Fld Z Z.heap a_DELEGATES_ONWARD "com/example/tallygate/tallygate/policy/ConditionCertificate$Type" "number" "I" (.int (1 : Int32))) (F_DELEGATES_number : Fld Z Z.heap a_DELEGATES "com/example/tallygate/tallygate/policy/ConditionCertificate$Type" "number" "I" (.int (2 : Int32))) (F_HOLDS_number : Fld Z Z.heap a_HOLDS "com/example/tallygate/tallygate/policy/ConditionCertificate$Type" "number" "I" (.int (3 : Int32))) (V_VAL : Arv Z Z.heap a_SVALUES kv (.object "com/example/tallygate/tallygate/policy/ConditionCertificate$Type") (3 : Int32) [(.ref a_DELEGATES_ONWARD), (.ref a_DELEGATES), (.ref a_HOLDS)] .null) :
    own_Met l Z x code maxLocals ret ws room_1 #[(.long p1)] h0 (fun v h L => v = some (.int 1) ∧ Fr n0 L) := by
  refine own_body (by first | exact plainFor_of_name pn_com_example_tallygate_tallygate_policy_TypeOfPinLaw | decide +kernel) ?_
  intro p e s m below meth c T0 X0 hx hby hml hret hlk hZ hown hnm e0
  have hown : s.vm.findClass "com/example/tallygate/tallygate/policy/TypeOfPinLaw" = some m.cls := hown
  have hnm : meth.name = "law" := hnm
  have N0 := Fr.nil n0
  rw [ef_0 m p1]
  show own_Go p e below _ T0 (mkF m 0 #[.val (.long p1), .second, .unset, .unset, .unset, .unset] [])
  refine own_go (fun t k => XS.lloadN X0.here hx rfl (hb hby at_0) rfl k) ?_
  show own_Go p e below _ T0 (mkF m 1 #[.val (.long p1), .second, .unset, .unset, .unset, .unset] [(.long p1)])
  refine own_go (fun t k => X0.ldc2Long hx hown (mvT hZ (own_w hw 0 rfl)) (g := (mkF m 1 #[.val (.long p1), .second, .unset, .unset, .unset, .unset] [(.long p1)])) rfl (hb hby at_1) t k) ?_
  show own_Go p e below _ T0 (mkF m 4 #[.val (.long p1), .second, .unset, .unset, .unset, .unset] [(.long (9223372036854775807 : Int64)), (.long p1)])
  refine own_go (fun t k => XS.land X0.here hx rfl (hb hby at_4) rfl k) ?_
  show own_Go p e below _ T0 (mkF m 5 #[.val (.long p1), .second, .unset, .unset, .unset, .unset] [(.long (p1 &&& (9223372036854775807 : Int64)))])
  refine own_go (fun t k => X0.ldc2Long hx hown (mvT hZ (own_w hw 1 rfl)) (g := (mkF m 5 #[.val (.long p1), .second, .unset, .unset, .unset, .unset] [(.long (p1 &&& (9223372036854775807 : Int64)))])) rfl (hb hby at_5) t k) ?_
  show own_Go p e below _ T0 (mkF m 8 #[.val (.long p1), .second, .unset, .unset, .unset, .unset] [(.long (3 : Int64)), (.long (p1 &&& (9223372036854775807 : Int64)))])
  refine own_go (fun t k => own_lrem X0 hx rfl (hb hby at_8) rfl (by decide) k) ?_
  show own_Go p e below _ T0 (mkF m 9 #[.val (.long p1), .second, .unset, .unset, .unset, .unset] [(.long ((p1 &&& (9223372036854775807 : Int64)) % (3 : Int64)))])
  refine own_go (fun t k => XS.lconst X0.here hx rfl (hb hby at_9) k) ?_
  show own_Go p e below _ T0 (mkF m 10 #[.val (.long p1), .second, .unset, .unset, .unset, .unset] [(.long (1 : Int64)), (.long ((p1 &&& (9223372036854775807 : Int64)) % (3 : Int64)))])
  refine own_go (fun t k => XS.ladd X0.here hx rfl (hb hby at_10) rfl k) ?_
  show own_Go p e below _ T0 (mkF m 11 #[.val (.long p1), .second, .unset, .unset, .unset, .unset] [(.long (((p1 &&& (9223372036854775807 : Int64)) % (3 : Int64)) + (1 : Int64)))])
  have hn3 := own_n3 p1
  generalize (((p1 &&& (9223372036854775807 : Int64)) % (3 : Int64)) + (1 : Int64)) = nn at hn3 ⊢
  rcases hn3 with rfl | rfl | rfl
  · show own_Go p e below _ T0 (mkF m 11 #[.val (.long p1), .second, .unset, .unset, .unset, .unset] [(.long (1 : Int64))])
    refine own_go (fun t k => XS.lstoreN X0.here hx rfl (hb hby at_11) rfl (l' := #[.val (.long p1), .second, .val (.long (1 : Int64)), .second, .unset, .unset]) rfl k) ?_
    show own_Go p e below _ T0 (mkF m 12 #[.val (.long p1), .second, .val (.long (1 : Int64)), .second, .unset, .unset] [])
    refine own_go (fun t k => XS.lloadN X0.here hx rfl (hb hby at_12) rfl k) ?_
    show own_Go p e below _ T0 (mkF m 13 #[.val (.long p1), .second, .val (.long (1 : Int64)), .second, .unset, .unset] [(.long (1 : Int64))])
    refine own_go (fun t k => XS.lconst X0.here hx rfl (hb hby at_13) k) ?_
    show own_Go p e below _ T0 (mkF m 14 #[.val (.long p1), .second, .val (.long (1 : Int64)), .second, .unset, .unset] [(.long (1 : Int64)), (.long (1 : Int64))])
    refine own_go (fun t k => XT.lcmp X0.here hx rfl (hb hby at_14) rfl k) ?_
    show own_Go p e below _ T0 (mkF m 15 #[.val (.long p1), .second, .val (.long (1 : Int64)), .second, .unset, .unset] [(.int (XT.cmpL (1 : Int64) (1 : Int64)))])
    refine own_go (fun t k => XS.ifNo X0.here hx rfl (hb hby at_15) rfl (XT.ll_ne_f (by decide)) k) ?_
    show own_Go p e below _ T0 (mkF m 18 #[.val (.long p1), .second, .val (.long (1 : Int64)), .second, .unset, .unset] [])
    obtain ⟨T1, X1, e1, st1⟩ := getS2 X0 hx hZ hown (host := "") (Or.inl (own_w hw 2 rfl)) Via.refl e0 (S_DELEGATES_ONWARD.ext O0.2) (g := (mkF m 18 #[.val (.long p1), .second, .val (.long (1 : Int64)), .second, .unset, .unset] [])) rfl (hb hby at_18)
    refine own_go st1 ?_
    show own_Go p e below _ T1 (mkF m 21 #[.val (.long p1), .second, .val (.long (1 : Int64)), .second, .unset, .unset] [(.ref a_DELEGATES_ONWARD)])
    refine own_go (fun t k => XS.astore X1.here hx rfl (hb hby at_21) rfl rfl (l' := #[.val (.long p1), .second, .val (.long (1 : Int64)), .second, .val (.ref a_DELEGATES_ONWARD), .unset]) rfl k) ?_
    show own_Go p e below _ T1 (mkF m 23 #[.val (.long p1), .second, .val (.long (1 : Int64)), .second, .val (.ref a_DELEGATES_ONWARD), .unset] [])
    refine own_go (fun t k => XS.goto X1.here hx rfl (pc0 := 23) (pc' := 47) rfl (hb hby at_23) (by decide) (by decide) k) ?_
    show own_Go p e below _ T1 (mkF m 47 #[.val (.long p1), .second, .val (.long (1 : Int64)), .second, .val (.ref a_DELEGATES_ONWARD), .unset] [])
    refine own_go (fun t k => XS.lloadN X1.here hx rfl (hb hby at_47) rfl k) ?_
    show own_Go p e below _ T1 (mkF m 48 #[.val (.long p1), .second, .val (.long (1 : Int64)), .second, .val (.ref a_DELEGATES_ONWARD), .unset] [(.long (1 : Int64))])
    obtain ⟨_, T2, L2, X2, ⟨rfl, old2, N2⟩, st2⟩ := own_callS X1 hx hZ (y := (⟨"com/example/tallygate/tallygate/policy/ConditionCertificate$Type", "of", "(J)Lcom/example/tallygate/tallygate/policy/ConditionCertificate$Type;"⟩ : MethodName)) (argsL := [(.long (1 : Int64))]) (rest := []) (Ls := #[.val (.long p1), .second, .val (.long (1 : Int64)), .second, .val (.ref a_DELEGATES_ONWARD), .unset]) hown (own_w hw 5 rfl) (own_w hw 6 rfl) (own_w hw 3 rfl) (own_w hw 7 rfl) (by decide) e1 (rmO_1 l Z a0 hw [] a_DELEGATES_ONWARD a_SVALUES a_DELEGATES a_HOLDS kv h0 n0 (own_oldge O0) O0 S_DELEGATES_ONWARD E_DELEGATES_ONWARD S_SVALUES E_SVALUES S_DELEGATES E_DELEGATES S_HOLDS E_HOLDS F_DELEGATES_ONWARD_number F_DELEGATES_number F_HOLDS_number V_VAL) 0 (by decide) (by decide) (by decide) (by decide) (by rw [hml]; rfl) (lenOf pd_3 rfl) rfl (Nat.le_of_eq rfl) (hb hby at_48)
    have M2 := Fr.app N0 N2
    refine own_go st2 ?_
    show own_Go p e below _ T2 (mkF m 51 #[.val (.long p1), .second, .val (.long (1 : Int64)), .second, .val (.ref a_DELEGATES_ONWARD), .unset] [(.ref a_DELEGATES_ONWARD)])
    refine own_go (fun t k => XS.astore X2.here hx rfl (hb hby at_51) rfl rfl (l' := #[.val (.long p1), .second, .val (.long (1 : Int64)), .second, .val (.ref a_DELEGATES_ONWARD), .val (.ref a_DELEGATES_ONWARD)]) rfl k) ?_
    show own_Go p e below _ T2 (mkF m 53 #[.val (.long p1), .second, .val (.long (1 : Int64)), .second, .val (.ref a_DELEGATES_ONWARD), .val (.ref a_DELEGATES_ONWARD)] [])
    refine own_go (fun t k => XS.aload X2.here hx rfl (hb hby at_53) rfl rfl k) ?_
    show own_Go p e below _ T2 (mkF m 55 #[.val (.long p1), .second, .val (.long (1 : Int64)), .second, .val (.ref a_DELEGATES_ONWARD), .val (.ref a_DELEGATES_ONWARD)] [(.ref a_DELEGATES_ONWARD)])
    refine own_go (fun t k => XS.aload X2.here hx rfl (hb hby at_55) rfl rfl k) ?_
    show own_Go p e below _ T2 (mkF m 57 #[.val (.long p1), .second, .val (.long (1 : Int64)), .second, .val (.ref a_DELEGATES_ONWARD), .val (.ref a_DELEGATES_ONWARD)] [(.ref a_DELEGATES_ONWARD), (.ref a_DELEGATES_ONWARD)])
    refine own_go (fun t k => XT.acmpYes X2.here hx rfl (pc0 := 57) (pc' := 62) rfl (hb hby at_57) rfl rfl rfl (XT.aa_eq_t rfl) (by decide) (by decide) k) ?_
    show own_Go p e below _ T2 (mkF m 62 #[.val (.long p1), .second, .val (.long (1 : Int64)), .second, .val (.ref a_DELEGATES_ONWARD), .val (.ref a_DELEGATES_ONWARD)] [])
    refine own_go (fun t k => XS.aload X2.here hx rfl (hb hby at_62) rfl rfl k) ?_
    show own_Go p e below _ T2 (mkF m 64 #[.val (.long p1), .second, .val (.long (1 : Int64)), .second, .val (.ref a_DELEGATES_ONWARD), .val (.ref a_DELEGATES_ONWARD)] [(.ref a_DELEGATES_ONWARD)])
    obtain ⟨_, T3, L3, X3, ⟨rfl, N3, e3⟩, st3⟩ := own_callV X2 hx hZ (y := (⟨"com/example/tallygate/tallygate/policy/ConditionCertificate$Type", "number", "()I"⟩ : MethodName)) (z := (⟨"com/example/tallygate/tallygate/policy/ConditionCertificate$Type", "number", "()I"⟩ : MethodName)) (b := a_DELEGATES_ONWARD) (argsL := []) (rest := []) (Ls := #[.val (.long p1), .second, .val (.long (1 : Int64)), .second, .val (.ref a_DELEGATES_ONWARD), .val (.ref a_DELEGATES_ONWARD)]) hown (own_w hw 27 rfl) (own_w hw 28 rfl) (own_w hw 30 rfl) (notFace_of_selects (args := #[]) (mvT hZ (own_w hw 30 rfl))) (own_w hw 29 rfl) (own_w hw 31 rfl) (own_w hw 3 rfl) (by decide) rfl (E_DELEGATES_ONWARD.ext old2.2) (rmN l Z a0 hw [] a_DELEGATES_ONWARD (1 : Int32) T2.heap n0 (own_oldge old2) (F_DELEGATES_ONWARD_number.ext old2.2)) 0 (by decide) (by decide) (by decide) (by decide) (by rw [hml]; rfl) (lenOf pd_0 rfl) rfl (Nat.le_of_eq rfl) (hb hby at_64)
    have M3 := Fr.app M2 N3
    refine own_go st3 ?_
    show own_Go p e below _ T3 (mkF m 67 #[.val (.long p1), .second, .val (.long (1 : Int64)), .second, .val (.ref a_DELEGATES_ONWARD), .val (.ref a_DELEGATES_ONWARD)] [(.int (1 : Int32))])
    refine own_go (fun t k => XS.i2l X3.here hx rfl (hb hby at_67) rfl k) ?_
    show own_Go p e below _ T3 (mkF m 68 #[.val (.long p1), .second, .val (.long (1 : Int64)), .second, .val (.ref a_DELEGATES_ONWARD), .val (.ref a_DELEGATES_ONWARD)] [(.long (1 : Int32).toInt64)])
    rw [show (1 : Int32).toInt64 = (1 : Int64) from by decide]
    show own_Go p e below _ T3 (mkF m 68 #[.val (.long p1), .second, .val (.long (1 : Int64)), .second, .val (.ref a_DELEGATES_ONWARD), .val (.ref a_DELEGATES_ONWARD)] [(.long (1 : Int64))])
    refine own_go (fun t k => XS.lloadN X3.here hx rfl (hb hby at_68) rfl k) ?_
    show own_Go p e below _ T3 (mkF m 69 #[.val (.long p1), .second, .val (.long (1 : Int64)), .second, .val (.ref a_DELEGATES_ONWARD), .val (.ref a_DELEGATES_ONWARD)] [(.long (1 : Int64)), (.long (1 : Int64))])
    refine own_go (fun t k => XT.lcmp X3.here hx rfl (hb hby at_69) rfl k) ?_
    show own_Go p e below _ T3 (mkF m 70 #[.val (.long p1), .second, .val (.long (1 : Int64)), .second, .val (.ref a_DELEGATES_ONWARD), .val (.ref a_DELEGATES_ONWARD)] [(.int (XT.cmpL (1 : Int64) (1 : Int64)))])
    refine own_go (fun t k => XS.ifYes X3.here hx rfl (pc0 := 70) (pc' := 75) rfl (hb hby at_70) rfl (XT.ll_eq_t (by decide)) (by decide) (by decide) k) ?_
    show own_Go p e below _ T3 (mkF m 75 #[.val (.long p1), .second, .val (.long (1 : Int64)), .second, .val (.ref a_DELEGATES_ONWARD), .val (.ref a_DELEGATES_ONWARD)] [])
    refine own_go (fun t k => XS.aload X3.here hx rfl (hb hby at_75) rfl rfl k) ?_
    show own_Go p e below _ T3 (mkF m 77 #[.val (.long p1), .second, .val (.long (1 : Int64)), .second, .val (.ref a_DELEGATES_ONWARD), .val (.ref a_DELEGATES_ONWARD)] [(.ref a_DELEGATES_ONWARD)])
    obtain ⟨_, T4, L4, X4, ⟨rfl, N4, e4⟩, st4⟩ := own_callV X3 hx hZ (y := (⟨"com/example/tallygate/tallygate/policy/ConditionCertificate$Type", "number", "()I"⟩ : MethodName)) (z := (⟨"com/example/tallygate/tallygate/policy/ConditionCertificate$Type", "number", "()I"⟩ : MethodName)) (b := a_DELEGATES_ONWARD) (argsL := []) (rest := []) (Ls := #[.val (.long p1), .second, .val (.long (1 : Int64)), .second, .val (.ref a_DELEGATES_ONWARD), .val (.ref a_DELEGATES_ONWARD)]) hown (own_w hw 27 rfl) (own_w hw 28 rfl) (own_w hw 30 rfl) (notFace_of_selects (args := #[]) (mvT hZ (own_w hw 30 rfl))) (own_w hw 29 rfl) (own_w hw 31 rfl) (own_w hw 3 rfl) (by decide) e3 (E_DELEGATES_ONWARD.ext old2.2) (rmN l Z a0 hw [] a_DELEGATES_ONWARD (1 : Int32) T2.heap n0 (own_oldge old2) (F_DELEGATES_ONWARD_number.ext old2.2)) 0 (by decide) (by decide) (by decide) (by decide) (by rw [hml]; rfl) (lenOf pd_0 rfl) rfl (Nat.le_of_eq rfl) (hb hby at_77)
    have M4 := Fr.app M3 N4
    refine own_go st4 ?_
    show own_Go p e below _ T4 (mkF m 80 #[.val (.long p1), .second, .val (.long (1 : Int64)), .second, .val (.ref a_DELEGATES_ONWARD), .val (.ref a_DELEGATES_ONWARD)] [(.int (1 : Int32))])
    refine own_go (fun t k => XS.i2l X4.here hx rfl (hb hby at_80) rfl k) ?_
    show own_Go p e below _ T4 (mkF m 81 #[.val (.long p1), .second, .val (.long (1 : Int64)), .second, .val (.ref a_DELEGATES_ONWARD), .val (.ref a_DELEGATES_ONWARD)] [(.long (1 : Int32).toInt64)])
    rw [show (1 : Int32).toInt64 = (1 : Int64) from by decide]
    show own_Go p e below _ T4 (mkF m 81 #[.val (.long p1), .second, .val (.long (1 : Int64)), .second, .val (.ref a_DELEGATES_ONWARD), .val (.ref a_DELEGATES_ONWARD)] [(.long (1 : Int64))])
    obtain ⟨_, T5, L5, X5, ⟨rfl, old5, N5⟩, st5⟩ := own_callS X4 hx hZ (y := (⟨"com/example/tallygate/tallygate/policy/ConditionCertificate$Type", "of", "(J)Lcom/example/tallygate/tallygate/policy/ConditionCertificate$Type;"⟩ : MethodName)) (argsL := [(.long (1 : Int64))]) (rest := []) (Ls := #[.val (.long p1), .second, .val (.long (1 : Int64)), .second, .val (.ref a_DELEGATES_ONWARD), .val (.ref a_DELEGATES_ONWARD)]) hown (own_w hw 5 rfl) (own_w hw 6 rfl) (own_w hw 3 rfl) (own_w hw 7 rfl) (by decide) e4 (rmO_1 l Z a0 hw [] a_DELEGATES_ONWARD a_SVALUES a_DELEGATES a_HOLDS kv T2.heap n0 (own_oldge old2) old2 S_DELEGATES_ONWARD E_DELEGATES_ONWARD S_SVALUES E_SVALUES S_DELEGATES E_DELEGATES S_HOLDS E_HOLDS F_DELEGATES_ONWARD_number F_DELEGATES_number F_HOLDS_number V_VAL) 0 (by decide) (by decide) (by decide) (by decide) (by rw [hml]; rfl) (lenOf pd_3 rfl) rfl (Nat.le_of_eq rfl) (hb hby at_81)
    have M5 := Fr.app M4 N5
    refine own_go st5 ?_
    show own_Go p e below _ T5 (mkF m 84 #[.val (.long p1), .second, .val (.long (1 : Int64)), .second, .val (.ref a_DELEGATES_ONWARD), .val (.ref a_DELEGATES_ONWARD)] [(.ref a_DELEGATES_ONWARD)])
    refine own_go (fun t k => XS.aload X5.here hx rfl (hb hby at_84) rfl rfl k) ?_
    show own_Go p e below _ T5 (mkF m 86 #[.val (.long p1), .second, .val (.long (1 : Int64)), .second, .val (.ref a_DELEGATES_ONWARD), .val (.ref a_DELEGATES_ONWARD)] [(.ref a_DELEGATES_ONWARD), (.ref a_DELEGATES_ONWARD)])
    refine own_go (fun t k => XT.acmpNo X5.here hx rfl (hb hby at_86) rfl rfl rfl (XT.aa_ne_f rfl) k) ?_
    show own_Go p e below _ T5 (mkF m 89 #[.val (.long p1), .second, .val (.long (1 : Int64)), .second, .val (.ref a_DELEGATES_ONWARD), .val (.ref a_DELEGATES_ONWARD)] [])
    refine own_go (fun t k => XS.iconst X5.here hx rfl (hb hby at_89) k) ?_
    show own_Go p e below _ T5 (mkF m 90 #[.val (.long p1), .second, .val (.long (1 : Int64)), .second, .val (.ref a_DELEGATES_ONWARD), .val (.ref a_DELEGATES_ONWARD)] [(.int (1 : Int32))])
    refine own_go (fun t k => XS.goto X5.here hx rfl (pc0 := 90) (pc' := 94) rfl (hb hby at_90) (by decide) (by decide) k) ?_
    show own_Go p e below _ T5 (mkF m 94 #[.val (.long p1), .second, .val (.long (1 : Int64)), .second, .val (.ref a_DELEGATES_ONWARD), .val (.ref a_DELEGATES_ONWARD)] [(.int (1 : Int32))])
    refine own_retZ X5 hx hlk hret (hb hby at_94) (Or.inr rfl) (by decide) (by decide) ?_
    exact ⟨rfl, M5⟩
  · show own_Go p e below _ T0 (mkF m 11 #[.val (.long p1), .second, .unset, .unset, .unset, .unset] [(.long (2 : Int64))])
    refine own_go (fun t k => XS.lstoreN X0.here hx rfl (hb hby at_11) rfl (l' := #[.val (.long p1), .second, .val (.long (2 : Int64)), .second, .unset, .unset]) rfl k) ?_
    show own_Go p e below _ T0 (mkF m 12 #[.val (.long p1), .second, .val (.long (2 : Int64)), .second, .unset, .unset] [])
    refine own_go (fun t k => XS.lloadN X0.here hx rfl (hb hby at_12) rfl k) ?_
    show own_Go p e below _ T0 (mkF m 13 #[.val (.long p1), .second, .val (.long (2 : Int64)), .second, .unset, .unset] [(.long (2 : Int64))])
    refine own_go (fun t k => XS.lconst X0.here hx rfl (hb hby at_13) k) ?_
    show own_Go p e below _ T0 (mkF m 14 #[.val (.long p1), .second, .val (.long (2 : Int64)), .second, .unset, .unset] [(.long (1 : Int64)), (.long (2 : Int64))])
    refine own_go (fun t k => XT.lcmp X0.here hx rfl (hb hby at_14) rfl k) ?_
    show own_Go p e below _ T0 (mkF m 15 #[.val (.long p1), .second, .val (.long (2 : Int64)), .second, .unset, .unset] [(.int (XT.cmpL (2 : Int64) (1 : Int64)))])
    refine own_go (fun t k => XS.ifYes X0.here hx rfl (pc0 := 15) (pc' := 26) rfl (hb hby at_15) rfl (XT.ll_ne_t (by decide)) (by decide) (by decide) k) ?_
    show own_Go p e below _ T0 (mkF m 26 #[.val (.long p1), .second, .val (.long (2 : Int64)), .second, .unset, .unset] [])
    refine own_go (fun t k => XS.lloadN X0.here hx rfl (hb hby at_26) rfl k) ?_
    show own_Go p e below _ T0 (mkF m 27 #[.val (.long p1), .second, .val (.long (2 : Int64)), .second, .unset, .unset] [(.long (2 : Int64))])
    refine own_go (fun t k => X0.ldc2Long hx hown (mvT hZ (own_w hw 32 rfl)) (g := (mkF m 27 #[.val (.long p1), .second, .val (.long (2 : Int64)), .second, .unset, .unset] [(.long (2 : Int64))])) rfl (hb hby at_27) t k) ?_
    show own_Go p e below _ T0 (mkF m 30 #[.val (.long p1), .second, .val (.long (2 : Int64)), .second, .unset, .unset] [(.long (2 : Int64)), (.long (2 : Int64))])
    refine own_go (fun t k => XT.lcmp X0.here hx rfl (hb hby at_30) rfl k) ?_
    show own_Go p e below _ T0 (mkF m 31 #[.val (.long p1), .second, .val (.long (2 : Int64)), .second, .unset, .unset] [(.int (XT.cmpL (2 : Int64) (2 : Int64)))])
    refine own_go (fun t k => XS.ifNo X0.here hx rfl (hb hby at_31) rfl (XT.ll_ne_f (by decide)) k) ?_
    show own_Go p e below _ T0 (mkF m 34 #[.val (.long p1), .second, .val (.long (2 : Int64)), .second, .unset, .unset] [])
    obtain ⟨T6, X6, e6, st6⟩ := getS2 X0 hx hZ hown (host := "") (Or.inl (own_w hw 33 rfl)) Via.refl e0 (S_DELEGATES.ext O0.2) (g := (mkF m 34 #[.val (.long p1), .second, .val (.long (2 : Int64)), .second, .unset, .unset] [])) rfl (hb hby at_34)
    refine own_go st6 ?_
    show own_Go p e below _ T6 (mkF m 37 #[.val (.long p1), .second, .val (.long (2 : Int64)), .second, .unset, .unset] [(.ref a_DELEGATES)])
    refine own_go (fun t k => XS.astore X6.here hx rfl (hb hby at_37) rfl rfl (l' := #[.val (.long p1), .second, .val (.long (2 : Int64)), .second, .val (.ref a_DELEGATES), .unset]) rfl k) ?_
    show own_Go p e below _ T6 (mkF m 39 #[.val (.long p1), .second, .val (.long (2 : Int64)), .second, .val (.ref a_DELEGATES), .unset] [])
    refine own_go (fun t k => XS.goto X6.here hx rfl (pc0 := 39) (pc' := 47) rfl (hb hby at_39) (by decide) (by decide) k) ?_
    show own_Go p e below _ T6 (mkF m 47 #[.val (.long p1), .second, .val (.long (2 : Int64)), .second, .val (.ref a_DELEGATES), .unset] [])
    refine own_go (fun t k => XS.lloadN X6.here hx rfl (hb hby at_47) rfl k) ?_
    show own_Go p e below _ T6 (mkF m 48 #[.val (.long p1), .second, .val (.long (2 : Int64)), .second, .val (.ref a_DELEGATES), .unset] [(.long (2 : Int64))])
    obtain ⟨_, T7, L7, X7, ⟨rfl, old7, N7⟩, st7⟩ := own_callS X6 hx hZ (y := (⟨"com/example/tallygate/tallygate/policy/ConditionCertificate$Type", "of", "(J)Lcom/example/tallygate/tallygate/policy/ConditionCertificate$Type;"⟩ : MethodName)) (argsL := [(.long (2 : Int64))]) (rest := []) (Ls := #[.val (.long p1), .second, .val (.long (2 : Int64)), .second, .val (.ref a_DELEGATES), .unset]) hown (own_w hw 5 rfl) (own_w hw 6 rfl) (own_w hw 3 rfl) (own_w hw 7 rfl) (by decide) e6 (rmO_2 l Z a0 hw [] a_DELEGATES_ONWARD a_SVALUES a_DELEGATES a_HOLDS kv h0 n0 (own_oldge O0) O0 S_DELEGATES_ONWARD E_DELEGATES_ONWARD S_SVALUES E_SVALUES S_DELEGATES E_DELEGATES S_HOLDS E_HOLDS F_DELEGATES_ONWARD_number F_DELEGATES_number F_HOLDS_number V_VAL) 0 (by decide) (by decide) (by decide) (by decide) (by rw [hml]; rfl) (lenOf pd_3 rfl) rfl (Nat.le_of_eq rfl) (hb hby at_48)
    have M7 := Fr.app N0 N7
    refine own_go st7 ?_
    show own_Go p e below _ T7 (mkF m 51 #[.val (.long p1), .second, .val (.long (2 : Int64)), .second, .val (.ref a_DELEGATES), .unset] [(.ref a_DELEGATES)])
    refine own_go (fun t k => XS.astore X7.here hx rfl (hb hby at_51) rfl rfl (l' := #[.val (.long p1), .second, .val (.long (2 : Int64)), .second, .val (.ref a_DELEGATES), .val (.ref a_DELEGATES)]) rfl k) ?_
    show own_Go p e below _ T7 (mkF m 53 #[.val (.long p1), .second, .val (.long (2 : Int64)), .second, .val (.ref a_DELEGATES), .val (.ref a_DELEGATES)] [])
    refine own_go (fun t k => XS.aload X7.here hx rfl (hb hby at_53) rfl rfl k) ?_
    show own_Go p e below _ T7 (mkF m 55 #[.val (.long p1), .second, .val (.long (2 : Int64)), .second, .val (.ref a_DELEGATES), .val (.ref a_DELEGATES)] [(.ref a_DELEGATES)])
    refine own_go (fun t k => XS.aload X7.here hx rfl (hb hby at_55) rfl rfl k) ?_
    show own_Go p e below _ T7 (mkF m 57 #[.val (.long p1), .second, .val (.long (2 : Int64)), .second, .val (.ref a_DELEGATES), .val (.ref a_DELEGATES)] [(.ref a_DELEGATES), (.ref a_DELEGATES)])
    refine own_go (fun t k => XT.acmpYes X7.here hx rfl (pc0 := 57) (pc' := 62) rfl (hb hby at_57) rfl rfl rfl (XT.aa_eq_t rfl) (by decide) (by decide) k) ?_
    show own_Go p e below _ T7 (mkF m 62 #[.val (.long p1), .second, .val (.long (2 : Int64)), .second, .val (.ref a_DELEGATES), .val (.ref a_DELEGATES)] [])
    refine own_go (fun t k => XS.aload X7.here hx rfl (hb hby at_62) rfl rfl k) ?_
    show own_Go p e below _ T7 (mkF m 64 #[.val (.long p1), .second, .val (.long (2 : Int64)), .second, .val (.ref a_DELEGATES), .val (.ref a_DELEGATES)] [(.ref a_DELEGATES)])
    obtain ⟨_, T8, L8, X8, ⟨rfl, N8, e8⟩, st8⟩ := own_callV X7 hx hZ (y := (⟨"com/example/tallygate/tallygate/policy/ConditionCertificate$Type", "number", "()I"⟩ : MethodName)) (z := (⟨"com/example/tallygate/tallygate/policy/ConditionCertificate$Type", "number", "()I"⟩ : MethodName)) (b := a_DELEGATES) (argsL := []) (rest := []) (Ls := #[.val (.long p1), .second, .val (.long (2 : Int64)), .second, .val (.ref a_DELEGATES), .val (.ref a_DELEGATES)]) hown (own_w hw 27 rfl) (own_w hw 28 rfl) (own_w hw 30 rfl) (notFace_of_selects (args := #[]) (mvT hZ (own_w hw 30 rfl))) (own_w hw 29 rfl) (own_w hw 31 rfl) (own_w hw 3 rfl) (by decide) rfl (E_DELEGATES.ext old7.2) (rmN l Z a0 hw [] a_DELEGATES (2 : Int32) T7.heap n0 (own_oldge old7) (F_DELEGATES_number.ext old7.2)) 0 (by decide) (by decide) (by decide) (by decide) (by rw [hml]; rfl) (lenOf pd_0 rfl) rfl (Nat.le_of_eq rfl) (hb hby at_64)
    have M8 := Fr.app M7 N8
    refine own_go st8 ?_
    show own_Go p e below _ T8 (mkF m 67 #[.val (.long p1), .second, .val (.long (2 : Int64)), .second, .val (.ref a_DELEGATES), .val (.ref a_DELEGATES)] [(.int (2 : Int32))])
    refine own_go (fun t k => XS.i2l X8.here hx rfl (hb hby at_67) rfl k) ?_
    show own_Go p e below _ T8 (mkF m 68 #[.val (.long p1), .second, .val (.long (2 : Int64)), .second, .val (.ref a_DELEGATES), .val (.ref a_DELEGATES)] [(.long (2 : Int32).toInt64)])
    rw [show (2 : Int32).toInt64 = (2 : Int64) from by decide]
    show own_Go p e below _ T8 (mkF m 68 #[.val (.long p1), .second, .val (.long (2 : Int64)), .second, .val (.ref a_DELEGATES), .val (.ref a_DELEGATES)] [(.long (2 : Int64))])
    refine own_go (fun t k => XS.lloadN X8.here hx rfl (hb hby at_68) rfl k) ?_
    show own_Go p e below _ T8 (mkF m 69 #[.val (.long p1), .second, .val (.long (2 : Int64)), .second, .val (.ref a_DELEGATES), .val (.ref a_DELEGATES)] [(.long (2 : Int64)), (.long (2 : Int64))])
    refine own_go (fun t k => XT.lcmp X8.here hx rfl (hb hby at_69) rfl k) ?_
    show own_Go p e below _ T8 (mkF m 70 #[.val (.long p1), .second, .val (.long (2 : Int64)), .second, .val (.ref a_DELEGATES), .val (.ref a_DELEGATES)] [(.int (XT.cmpL (2 : Int64) (2 : Int64)))])
    refine own_go (fun t k => XS.ifYes X8.here hx rfl (pc0 := 70) (pc' := 75) rfl (hb hby at_70) rfl (XT.ll_eq_t (by decide)) (by decide) (by decide) k) ?_
    show own_Go p e below _ T8 (mkF m 75 #[.val (.long p1), .second, .val (.long (2 : Int64)), .second, .val (.ref a_DELEGATES), .val (.ref a_DELEGATES)] [])
    refine own_go (fun t k => XS.aload X8.here hx rfl (hb hby at_75) rfl rfl k) ?_
    show own_Go p e below _ T8 (mkF m 77 #[.val (.long p1), .second, .val (.long (2 : Int64)), .second, .val (.ref a_DELEGATES), .val (.ref a_DELEGATES)] [(.ref a_DELEGATES)])
    obtain ⟨_, T9, L9, X9, ⟨rfl, N9, e9⟩, st9⟩ := own_callV X8 hx hZ (y := (⟨"com/example/tallygate/tallygate/policy/ConditionCertificate$Type", "number", "()I"⟩ : MethodName)) (z := (⟨"com/example/tallygate/tallygate/policy/ConditionCertificate$Type", "number", "()I"⟩ : MethodName)) (b := a_DELEGATES) (argsL := []) (rest := []) (Ls := #[.val (.long p1), .second, .val (.long (2 : Int64)), .second, .val (.ref a_DELEGATES), .val (.ref a_DELEGATES)]) hown (own_w hw 27 rfl) (own_w hw 28 rfl) (own_w hw 30 rfl) (notFace_of_selects (args := #[]) (mvT hZ (own_w hw 30 rfl))) (own_w hw 29 rfl) (own_w hw 31 rfl) (own_w hw 3 rfl) (by decide) e8 (E_DELEGATES.ext old7.2) (rmN l Z a0 hw [] a_DELEGATES (2 : Int32) T7.heap n0 (own_oldge old7) (F_DELEGATES_number.ext old7.2)) 0 (by decide) (by decide) (by decide) (by decide) (by rw [hml]; rfl) (lenOf pd_0 rfl) rfl (Nat.le_of_eq rfl) (hb hby at_77)
    have M9 := Fr.app M8 N9
    refine own_go st9 ?_
    show own_Go p e below _ T9 (mkF m 80 #[.val (.long p1), .second, .val (.long (2 : Int64)), .second, .val (.ref a_DELEGATES), .val (.ref a_DELEGATES)] [(.int (2 : Int32))])
    refine own_go (fun t k => XS.i2l X9.here hx rfl (hb hby at_80) rfl k) ?_
    show own_Go p e below _ T9 (mkF m 81 #[.val (.long p1), .second, .val (.long (2 : Int64)), .second, .val (.ref a_DELEGATES), .val (.ref a_DELEGATES)] [(.long (2 : Int32).toInt64)])
    rw [show (2 : Int32).toInt64 = (2 : Int64) from by decide]
    show own_Go p e below _ T9 (mkF m 81 #[.val (.long p1), .second, .val (.long (2 : Int64)), .second, .val (.ref a_DELEGATES), .val (.ref a_DELEGATES)] [(.long (2 : Int64))])
    obtain ⟨_, T10, L10, X10, ⟨rfl, old10, N10⟩, st10⟩ := own_callS X9 hx hZ (y := (⟨"com/example/tallygate/tallygate/policy/ConditionCertificate$Type", "of", "(J)Lcom/example/tallygate/tallygate/policy/ConditionCertificate$Type;"⟩ : MethodName)) (argsL := [(.long (2 : Int64))]) (rest := []) (Ls := #[.val (.long p1), .second, .val (.long (2 : Int64)), .second, .val (.ref a_DELEGATES), .val (.ref a_DELEGATES)]) hown (own_w hw 5 rfl) (own_w hw 6 rfl) (own_w hw 3 rfl) (own_w hw 7 rfl) (by decide) e9 (rmO_2 l Z a0 hw [] a_DELEGATES_ONWARD a_SVALUES a_DELEGATES a_HOLDS kv T7.heap n0 (own_oldge old7) old7 S_DELEGATES_ONWARD E_DELEGATES_ONWARD S_SVALUES E_SVALUES S_DELEGATES E_DELEGATES S_HOLDS E_HOLDS F_DELEGATES_ONWARD_number F_DELEGATES_number F_HOLDS_number V_VAL) 0 (by decide) (by decide) (by decide) (by decide) (by rw [hml]; rfl) (lenOf pd_3 rfl) rfl (Nat.le_of_eq rfl) (hb hby at_81)
    have M10 := Fr.app M9 N10
    refine own_go st10 ?_
    show own_Go p e below _ T10 (mkF m 84 #[.val (.long p1), .second, .val (.long (2 : Int64)), .second, .val (.ref a_DELEGATES), .val (.ref a_DELEGATES)] [(.ref a_DELEGATES)])
    refine own_go (fun t k => XS.aload X10.here hx rfl (hb hby at_84) rfl rfl k) ?_
    show own_Go p e below _ T10 (mkF m 86 #[.val (.long p1), .second, .val (.long (2 : Int64)), .second, .val (.ref a_DELEGATES), .val (.ref a_DELEGATES)] [(.ref a_DELEGATES), (.ref a_DELEGATES)])
    refine own_go (fun t k => XT.acmpNo X10.here hx rfl (hb hby at_86) rfl rfl rfl (XT.aa_ne_f rfl) k) ?_
    show own_Go p e below _ T10 (mkF m 89 #[.val (.long p1), .second, .val (.long (2 : Int64)), .second, .val (.ref a_DELEGATES), .val (.ref a_DELEGATES)] [])
    refine own_go (fun t k => XS.iconst X10.here hx rfl (hb hby at_89) k) ?_
    show own_Go p e below _ T10 (mkF m 90 #[.val (.long p1), .second, .val (.long (2 : Int64)), .second, .val (.ref a_DELEGATES), .val (.ref a_DELEGATES)] [(.int (1 : Int32))])
    refine own_go (fun t k => XS.goto X10.here hx rfl (pc0 := 90) (pc' := 94) rfl (hb hby at_90) (by decide) (by decide) k) ?_
    show own_Go p e below _ T10 (mkF m 94 #[.val (.long p1), .second, .val (.long (2 : Int64)), .second, .val (.ref a_DELEGATES), .val (.ref a_DELEGATES)] [(.int (1 : Int32))])
    refine own_retZ X10 hx hlk hret (hb hby at_94) (Or.inr rfl) (by decide) (by decide) ?_
    exact ⟨rfl, M10⟩
  · show own_Go p e below _ T0 (mkF m 11 #[.val (.long p1), .second, .unset, .unset, .unset, .unset] [(.long (3 : Int64))])
    refine own_go (fun t k => XS.lstoreN X0.here hx rfl (hb hby at_11) rfl (l' := #[.val (.long p1), .second, .val (.long (3 : Int64)), .second, .unset, .unset]) rfl k) ?_
    show own_Go p e below _ T0 (mkF m 12 #[.val (.long p1), .second, .val (.long (3 : Int64)), .second, .unset, .unset] [])
    refine own_go (fun t k => XS.lloadN X0.here hx rfl (hb hby at_12) rfl k) ?_
    show own_Go p e below _ T0 (mkF m 13 #[.val (.long p1), .second, .val (.long (3 : Int64)), .second, .unset, .unset] [(.long (3 : Int64))])
    refine own_go (fun t k => XS.lconst X0.here hx rfl (hb hby at_13) k) ?_
    show own_Go p e below _ T0 (mkF m 14 #[.val (.long p1), .second, .val (.long (3 : Int64)), .second, .unset, .unset] [(.long (1 : Int64)), (.long (3 : Int64))])
    refine own_go (fun t k => XT.lcmp X0.here hx rfl (hb hby at_14) rfl k) ?_
    show own_Go p e below _ T0 (mkF m 15 #[.val (.long p1), .second, .val (.long (3 : Int64)), .second, .unset, .unset] [(.int (XT.cmpL (3 : Int64) (1 : Int64)))])
    refine own_go (fun t k => XS.ifYes X0.here hx rfl (pc0 := 15) (pc' := 26) rfl (hb hby at_15) rfl (XT.ll_ne_t (by decide)) (by decide) (by decide) k) ?_
    show own_Go p e below _ T0 (mkF m 26 #[.val (.long p1), .second, .val (.long (3 : Int64)), .second, .unset, .unset] [])
    refine own_go (fun t k => XS.lloadN X0.here hx rfl (hb hby at_26) rfl k) ?_
    show own_Go p e below _ T0 (mkF m 27 #[.val (.long p1), .second, .val (.long (3 : Int64)), .second, .unset, .unset] [(.long (3 : Int64))])
    refine own_go (fun t k => X0.ldc2Long hx hown (mvT hZ (own_w hw 32 rfl)) (g := (mkF m 27 #[.val (.long p1), .second, .val (.long (3 : Int64)), .second, .unset, .unset] [(.long (3 : Int64))])) rfl (hb hby at_27) t k) ?_
    show own_Go p e below _ T0 (mkF m 30 #[.val (.long p1), .second, .val (.long (3 : Int64)), .second, .unset, .unset] [(.long (2 : Int64)), (.long (3 : Int64))])
    refine own_go (fun t k => XT.lcmp X0.here hx rfl (hb hby at_30) rfl k) ?_
    show own_Go p e below _ T0 (mkF m 31 #[.val (.long p1), .second, .val (.long (3 : Int64)), .second, .unset, .unset] [(.int (XT.cmpL (3 : Int64) (2 : Int64)))])
    refine own_go (fun t k => XS.ifYes X0.here hx rfl (pc0 := 31) (pc' := 42) rfl (hb hby at_31) rfl (XT.ll_ne_t (by decide)) (by decide) (by decide) k) ?_
    show own_Go p e below _ T0 (mkF m 42 #[.val (.long p1), .second, .val (.long (3 : Int64)), .second, .unset, .unset] [])
    obtain ⟨T11, X11, e11, st11⟩ := getS2 X0 hx hZ hown (host := "") (Or.inl (own_w hw 34 rfl)) Via.refl e0 (S_HOLDS.ext O0.2) (g := (mkF m 42 #[.val (.long p1), .second, .val (.long (3 : Int64)), .second, .unset, .unset] [])) rfl (hb hby at_42)
    refine own_go st11 ?_
    show own_Go p e below _ T11 (mkF m 45 #[.val (.long p1), .second, .val (.long (3 : Int64)), .second, .unset, .unset] [(.ref a_HOLDS)])
    refine own_go (fun t k => XS.astore X11.here hx rfl (hb hby at_45) rfl rfl (l' := #[.val (.long p1), .second, .val (.long (3 : Int64)), .second, .val (.ref a_HOLDS), .unset]) rfl k) ?_
    show own_Go p e below _ T11 (mkF m 47 #[.val (.long p1), .second, .val (.long (3 : Int64)), .second, .val (.ref a_HOLDS), .unset] [])
    refine own_go (fun t k => XS.lloadN X11.here hx rfl (hb hby at_47) rfl k) ?_
    show own_Go p e below _ T11 (mkF m 48 #[.val (.long p1), .second, .val (.long (3 : Int64)), .second, .val (.ref a_HOLDS), .unset] [(.long (3 : Int64))])
    obtain ⟨_, T12, L12, X12, ⟨rfl, old12, N12⟩, st12⟩ := own_callS X11 hx hZ (y := (⟨"com/example/tallygate/tallygate/policy/ConditionCertificate$Type", "of", "(J)Lcom/example/tallygate/tallygate/policy/ConditionCertificate$Type;"⟩ : MethodName)) (argsL := [(.long (3 : Int64))]) (rest := []) (Ls := #[.val (.long p1), .second, .val (.long (3 : Int64)), .second, .val (.ref a_HOLDS), .unset]) hown (own_w hw 5 rfl) (own_w hw 6 rfl) (own_w hw 3 rfl) (own_w hw 7 rfl) (by decide) e11 (rmO_3 l Z a0 hw [] a_DELEGATES_ONWARD a_SVALUES a_DELEGATES a_HOLDS kv h0 n0 (own_oldge O0) O0 S_DELEGATES_ONWARD E_DELEGATES_ONWARD S_SVALUES E_SVALUES S_DELEGATES E_DELEGATES S_HOLDS E_HOLDS F_DELEGATES_ONWARD_number F_DELEGATES_number F_HOLDS_number V_VAL) 0 (by decide) (by decide) (by decide) (by decide) (by rw [hml]; rfl) (lenOf pd_3 rfl) rfl (Nat.le_of_eq rfl) (hb hby at_48)
    have M12 := Fr.app N0 N12
    refine own_go st12 ?_
    show own_Go p e below _ T12 (mkF m 51 #[.val (.long p1), .second, .val (.long (3 : Int64)), .second, .val (.ref a_HOLDS), .unset] [(.ref a_HOLDS)])
    refine own_go (fun t k => XS.astore X12.here hx rfl (hb hby at_51) rfl rfl (l' := #[.val (.long p1), .second, .val (.long (3 : Int64)), .second, .val (.ref a_HOLDS), .val (.ref a_HOLDS)]) rfl k) ?_
    show own_Go p e below _ T12 (mkF m 53 #[.val (.long p1), .second, .val (.long (3 : Int64)), .second, .val (.ref a_HOLDS), .val (.ref a_HOLDS)] [])
    refine own_go (fun t k => XS.aload X12.here hx rfl (hb hby at_53) rfl rfl k) ?_
    show own_Go p e below _ T12 (mkF m 55 #[.val (.long p1), .second, .val (.long (3 : Int64)), .second, .val (.ref a_HOLDS), .val (.ref a_HOLDS)] [(.ref a_HOLDS)])
    refine own_go (fun t k => XS.aload X12.here hx rfl (hb hby at_55) rfl rfl k) ?_
    show own_Go p e below _ T12 (mkF m 57 #[.val (.long p1), .second, .val (.long (3 : Int64)), .second, .val (.ref a_HOLDS), .val (.ref a_HOLDS)] [(.ref a_HOLDS), (.ref a_HOLDS)])
    refine own_go (fun t k => XT.acmpYes X12.here hx rfl (pc0 := 57) (pc' := 62) rfl (hb hby at_57) rfl rfl rfl (XT.aa_eq_t rfl) (by decide) (by decide) k) ?_
    show own_Go p e below _ T12 (mkF m 62 #[.val (.long p1), .second, .val (.long (3 : Int64)), .second, .val (.ref a_HOLDS), .val (.ref a_HOLDS)] [])
    refine own_go (fun t k => XS.aload X12.here hx rfl (hb hby at_62) rfl rfl k) ?_
    show own_Go p e below _ T12 (mkF m 64 #[.val (.long p1), .second, .val (.long (3 : Int64)), .second, .val (.ref a_HOLDS), .val (.ref a_HOLDS)] [(.ref a_HOLDS)])
    obtain ⟨_, T13, L13, X13, ⟨rfl, N13, e13⟩, st13⟩ := own_callV X12 hx hZ (y := (⟨"com/example/tallygate/tallygate/policy/ConditionCertificate$Type", "number", "()I"⟩ : MethodName)) (z := (⟨"com/example/tallygate/tallygate/policy/ConditionCertificate$Type", "number", "()I"⟩ : MethodName)) (b := a_HOLDS) (argsL := []) (rest := []) (Ls := #[.val (.long p1), .second, .val (.long (3 : Int64)), .second, .val (.ref a_HOLDS), .val (.ref a_HOLDS)]) hown (own_w hw 27 rfl) (own_w hw 28 rfl) (own_w hw 30 rfl) (notFace_of_selects (args := #[]) (mvT hZ (own_w hw 30 rfl))) (own_w hw 29 rfl) (own_w hw 31 rfl) (own_w hw 3 rfl) (by decide) rfl (E_HOLDS.ext old12.2) (rmN l Z a0 hw [] a_HOLDS (3 : Int32) T12.heap n0 (own_oldge old12) (F_HOLDS_number.ext old12.2)) 0 (by decide) (by decide) (by decide) (by decide) (by rw [hml]; rfl) (lenOf pd_0 rfl) rfl (Nat.le_of_eq rfl) (hb hby at_64)
    have M13 := Fr.app M12 N13
    refine own_go st13 ?_
    show own_Go p e below _ T13 (mkF m 67 #[.val (.long p1), .second, .val (.long (3 : Int64)), .second, .val (.ref a_HOLDS), .val (.ref a_HOLDS)] [(.int (3 : Int32))])
    refine own_go (fun t k => XS.i2l X13.here hx rfl (hb hby at_67) rfl k) ?_
    show own_Go p e below _ T13 (mkF m 68 #[.val (.long p1), .second, .val (.long (3 : Int64)), .second, .val (.ref a_HOLDS), .val (.ref a_HOLDS)] [(.long (3 : Int32).toInt64)])
    rw [show (3 : Int32).toInt64 = (3 : Int64) from by decide]
    show own_Go p e below _ T13 (mkF m 68 #[.val (.long p1), .second, .val (.long (3 : Int64)), .second, .val (.ref a_HOLDS), .val (.ref a_HOLDS)] [(.long (3 : Int64))])
    refine own_go (fun t k => XS.lloadN X13.here hx rfl (hb hby at_68) rfl k) ?_
    show own_Go p e below _ T13 (mkF m 69 #[.val (.long p1), .second, .val (.long (3 : Int64)), .second, .val (.ref a_HOLDS), .val (.ref a_HOLDS)] [(.long (3 : Int64)), (.long (3 : Int64))])
    refine own_go (fun t k => XT.lcmp X13.here hx rfl (hb hby at_69) rfl k) ?_
    show own_Go p e below _ T13 (mkF m 70 #[.val (.long p1), .second, .val (.long (3 : Int64)), .second, .val (.ref a_HOLDS), .val (.ref a_HOLDS)] [(.int (XT.cmpL (3 : Int64) (3 : Int64)))])
    refine own_go (fun t k => XS.ifYes X13.here hx rfl (pc0 := 70) (pc' := 75) rfl (hb hby at_70) rfl (XT.ll_eq_t (by decide)) (by decide) (by decide) k) ?_
    show own_Go p e below _ T13 (mkF m 75 #[.val (.long p1), .second, .val (.long (3 : Int64)), .second, .val (.ref a_HOLDS), .val (.ref a_HOLDS)] [])
    refine own_go (fun t k => XS.aload X13.here hx rfl (hb hby at_75) rfl rfl k) ?_
    show own_Go p e below _ T13 (mkF m 77 #[.val (.long p1), .second, .val (.long (3 : Int64)), .second, .val (.ref a_HOLDS), .val (.ref a_HOLDS)] [(.ref a_HOLDS)])
    obtain ⟨_, T14, L14, X14, ⟨rfl, N14, e14⟩, st14⟩ := own_callV X13 hx hZ (y := (⟨"com/example/tallygate/tallygate/policy/ConditionCertificate$Type", "number", "()I"⟩ : MethodName)) (z := (⟨"com/example/tallygate/tallygate/policy/ConditionCertificate$Type", "number", "()I"⟩ : MethodName)) (b := a_HOLDS) (argsL := []) (rest := []) (Ls := #[.val (.long p1), .second, .val (.long (3 : Int64)), .second, .val (.ref a_HOLDS), .val (.ref a_HOLDS)]) hown (own_w hw 27 rfl) (own_w hw 28 rfl) (own_w hw 30 rfl) (notFace_of_selects (args := #[]) (mvT hZ (own_w hw 30 rfl))) (own_w hw 29 rfl) (own_w hw 31 rfl) (own_w hw 3 rfl) (by decide) e13 (E_HOLDS.ext old12.2) (rmN l Z a0 hw [] a_HOLDS (3 : Int32) T12.heap n0 (own_oldge old12) (F_HOLDS_number.ext old12.2)) 0 (by decide) (by decide) (by decide) (by decide) (by rw [hml]; rfl) (lenOf pd_0 rfl) rfl (Nat.le_of_eq rfl) (hb hby at_77)
    have M14 := Fr.app M13 N14
    refine own_go st14 ?_
    show own_Go p e below _ T14 (mkF m 80 #[.val (.long p1), .second, .val (.long (3 : Int64)), .second, .val (.ref a_HOLDS), .val (.ref a_HOLDS)] [(.int (3 : Int32))])
    refine own_go (fun t k => XS.i2l X14.here hx rfl (hb hby at_80) rfl k) ?_
    show own_Go p e below _ T14 (mkF m 81 #[.val (.long p1), .second, .val (.long (3 : Int64)), .second, .val (.ref a_HOLDS), .val (.ref a_HOLDS)] [(.long (3 : Int32).toInt64)])
    rw [show (3 : Int32).toInt64 = (3 : Int64) from by decide]
    show own_Go p e below _ T14 (mkF m 81 #[.val (.long p1), .second, .val (.long (3 : Int64)), .second, .val (.ref a_HOLDS), .val (.ref a_HOLDS)] [(.long (3 : Int64))])
    obtain ⟨_, T15, L15, X15, ⟨rfl, old15, N15⟩, st15⟩ := own_callS X14 hx hZ (y := (⟨"com/example/tallygate/tallygate/policy/ConditionCertificate$Type", "of", "(J)Lcom/example/tallygate/tallygate/policy/ConditionCertificate$Type;"⟩ : MethodName)) (argsL := [(.long (3 : Int64))]) (rest := []) (Ls := #[.val (.long p1), .second, .val (.long (3 : Int64)), .second, .val (.ref a_HOLDS), .val (.ref a_HOLDS)]) hown (own_w hw 5 rfl) (own_w hw 6 rfl) (own_w hw 3 rfl) (own_w hw 7 rfl) (by decide) e14 (rmO_3 l Z a0 hw [] a_DELEGATES_ONWARD a_SVALUES a_DELEGATES a_HOLDS kv T12.heap n0 (own_oldge old12) old12 S_DELEGATES_ONWARD E_DELEGATES_ONWARD S_SVALUES E_SVALUES S_DELEGATES E_DELEGATES S_HOLDS E_HOLDS F_DELEGATES_ONWARD_number F_DELEGATES_number F_HOLDS_number V_VAL) 0 (by decide) (by decide) (by decide) (by decide) (by rw [hml]; rfl) (lenOf pd_3 rfl) rfl (Nat.le_of_eq rfl) (hb hby at_81)
    have M15 := Fr.app M14 N15
    refine own_go st15 ?_
    show own_Go p e below _ T15 (mkF m 84 #[.val (.long p1), .second, .val (.long (3 : Int64)), .second, .val (.ref a_HOLDS), .val (.ref a_HOLDS)] [(.ref a_HOLDS)])
    refine own_go (fun t k => XS.aload X15.here hx rfl (hb hby at_84) rfl rfl k) ?_
    show own_Go p e below _ T15 (mkF m 86 #[.val (.long p1), .second, .val (.long (3 : Int64)), .second, .val (.ref a_HOLDS), .val (.ref a_HOLDS)] [(.ref a_HOLDS), (.ref a_HOLDS)])
    refine own_go (fun t k => XT.acmpNo X15.here hx rfl (hb hby at_86) rfl rfl rfl (XT.aa_ne_f rfl) k) ?_
    show own_Go p e below _ T15 (mkF m 89 #[.val (.long p1), .second, .val (.long (3 : Int64)), .second, .val (.ref a_HOLDS), .val (.ref a_HOLDS)] [])
    refine own_go (fun t k => XS.iconst X15.here hx rfl (hb hby at_89) k) ?_
    show own_Go p e below _ T15 (mkF m 90 #[.val (.long p1), .second, .val (.long (3 : Int64)), .second, .val (.ref a_HOLDS), .val (.ref a_HOLDS)] [(.int (1 : Int32))])
    refine own_go (fun t k => XS.goto X15.here hx rfl (pc0 := 90) (pc' := 94) rfl (hb hby at_90) (by decide) (by decide) k) ?_
    show own_Go p e below _ T15 (mkF m 94 #[.val (.long p1), .second, .val (.long (3 : Int64)), .second, .val (.ref a_HOLDS), .val (.ref a_HOLDS)] [(.int (1 : Int32))])
    refine own_retZ X15 hx hlk hret (hb hby at_94) (Or.inr rfl) (by decide) (by decide) ?_
    exact ⟨rfl, M15⟩
set_option maxRecDepth 65536 in
set_option maxHeartbeats 40000000 in
theorem comes_1 {Post : Tables → Env → Array Value → State → Outcome → State → Prop} (hpost : ∀ tb e args s v u, (limb_1_1.after args s (.returned v) u = true ∧ limb_1_2.after args s (.returned v) u = true ∧ True) → FrameEnd s (.returned v) u (Jvm.fieldLocs frame_1_writes args s ++ Jvm.arrayLocs frame_1_arrays args s ++ Jvm.staticLocs frame_1_statics s) 16 128 → Post tb e args s (.returned v) u) :
    ArmFor flags0 classFile x code maxLocals ret World_1 tables_1 room_1 Calls_1 rest_1 Pre_1 Post := by
  intro l hfl _ _ p e ha hc hk s m args below hf hA hF happ hP
  obtain ⟨hcalls, hrest, hpre⟩ := hP
  obtain ⟨-, -, -, hnamed, -, -, -, hat⟩ := (Spec.applies_iff hf).mp happ
  obtain ⟨hg, hn⟩ := and_e (Cond.before_iff.mp (show (Jvm.Cond.and given_1 narrow_1).before args s = true from hpre))
  obtain ⟨g1, g2⟩ := and_e hg
  obtain ⟨w0, rfl⟩ : ∃ w0 : Value, args = #[w0] := by
    have hs : args.size = 1 := by simpa [Cond.value, given_1] using g1
    obtain ⟨L⟩ := args
    match L, hs with
    | [w0], _ => exact ⟨w0, rfl⟩
  have hw := fun d (hd : d ∈ tables_1) => atoms_spec (ws := Jvm.Cond.code x code maxLocals ret :: tables_1) hat d (List.mem_cons_of_mem _ hd)
  have hfit : Fit s := fun {y c} hc i hi => by
    obtain ⟨ha, rfl⟩ := Array.getElem?_eq_some_iff.mp hc
    have q := List.all_eq_true.mp ((Array.all_eq_true_iff_forall_mem.mp hF) _ (Array.getElem_mem ha)) i (List.mem_range.mpr hi)
    simpa [Array.getElem?_eq_getElem hi] using q
  obtain ⟨i0, ei0⟩ := isL_v g2
  obtain rfl : w0 = (.long i0) := Option.some.inj ei0
  obtain ⟨nq0, nr0⟩ := and_e hn
  obtain ⟨nq1, nr1⟩ := and_e nr0
  obtain ⟨nq2, nr2⟩ := and_e nr1
  obtain ⟨nq3, nr3⟩ := and_e nr2
  obtain ⟨nq4, nr4⟩ := and_e nr3
  obtain ⟨nq5, nr5⟩ := and_e nr4
  obtain ⟨nq6, nr6⟩ := and_e nr5
  obtain ⟨nq7, nr7⟩ := and_e nr6
  obtain ⟨nq8, nr8⟩ := and_e nr7
  obtain ⟨nq9, nr9⟩ := and_e nr8
  obtain ⟨nq10, nr10⟩ := and_e nr9
  obtain ⟨a_DELEGATES_ONWARD, ev_DELEGATES_ONWARD⟩ := exa_v nq0
  have E_DELEGATES_ONWARD := Exa.start ev_DELEGATES_ONWARD nq0
  have S_DELEGATES_ONWARD := Sta.start ev_DELEGATES_ONWARD (Or.inr ⟨(own_w hw 3 rfl), (own_w hw 4 rfl)⟩)
  obtain ⟨a_SVALUES, ev_SVALUES⟩ := exa_v nq2
  have E_SVALUES := Exa.start ev_SVALUES nq2
  have S_SVALUES := Sta.start ev_SVALUES (Or.inr ⟨(own_w hw 3 rfl), (own_w hw 12 rfl)⟩)
  obtain ⟨a_DELEGATES, ev_DELEGATES⟩ := exa_v nq5
  have E_DELEGATES := Exa.start ev_DELEGATES nq5
  have S_DELEGATES := Sta.start ev_DELEGATES (Or.inr ⟨(own_w hw 3 rfl), (own_w hw 20 rfl)⟩)
  obtain ⟨a_HOLDS, ev_HOLDS⟩ := exa_v nq7
  have E_HOLDS := Exa.start ev_HOLDS nq7
  have S_HOLDS := Sta.start ev_HOLDS (Or.inr ⟨(own_w hw 3 rfl), (own_w hw 21 rfl)⟩)
  have F_DELEGATES_ONWARD_number := own_fld ev_DELEGATES_ONWARD (own_eqI nq9)
  have F_DELEGATES_number := own_fld ev_DELEGATES (own_eqI nq10)
  have F_HOLDS_number := own_fld ev_HOLDS (own_eqI nr10)
  obtain ⟨cm, Am⟩ := Arr.start ev_SVALUES nq1
  obtain ⟨hl1, hl2⟩ := own_lenOf ev_SVALUES Am (own_eqI nq3)
  have V_VAL : Arv s s.heap a_SVALUES cm.cls (.object "com/example/tallygate/tallygate/policy/ConditionCertificate$Type") (3 : Int32) [(.ref a_DELEGATES_ONWARD), (.ref a_DELEGATES), (.ref a_HOLDS)] .null := Arv.start hfit Am hl1 hl2 (by decide) rfl ⟨(elem_in (own_eqR ev_DELEGATES_ONWARD nq4) ev_SVALUES rfl Am.1).2, (elem_in (own_eqR ev_DELEGATES nq6) ev_SVALUES rfl Am.1).2, (elem_in (own_eqR ev_HOLDS nq8) ev_SVALUES rfl Am.1).2, trivial⟩
  obtain ⟨n, o, h1, h2, h3, _, L, rfl, ⟨rfl, N⟩, hq⟩ := rm0 l s _ hw tables_1 i0 a_DELEGATES_ONWARD a_SVALUES a_DELEGATES a_HOLDS cm.cls s.heap s.heap.size (Nat.le_refl _) (Old.start s) S_DELEGATES_ONWARD E_DELEGATES_ONWARD S_SVALUES E_SVALUES S_DELEGATES E_DELEGATES S_HOLDS E_HOLDS F_DELEGATES_ONWARD_number F_DELEGATES_number F_HOLDS_number V_VAL p e ha hc hk s m _ below hf ((Spec.applies_iff_loose hf).mp happ).1 ⟨rfl, State.Warmed39.refl s, rfl⟩ trivial
  refine ⟨n, _, h1, h2, h3, hpost _ _ _ _ _ _ ⟨Cond.after_iff.mpr rfl, Cond.after_iff.mpr (eq_i res_at (Term.int_eval (1)) rfl), trivial⟩ ⟨hq.1, hq.2.1, (hq.2.2.sift fun y hy => Or.inr (N y hy)).mono (by decide) (by decide)⟩⟩
theorem main_1_1 : Claimed_1_1 := comes_1 fun _ _ _ _ _ _ h hF => ⟨h.1, hF⟩
theorem main_1_2 : Claimed_1_2 := comes_1 fun _ _ _ _ _ _ h hF => ⟨h.2.1, hF⟩
end Jvm.Pilot.@@N@@
namespace Jvm.Pilot.@@N@@
open Jvm Jvm.ClassFile Sem Op Lib Jvm.Free Jvm.Stand Jvm.Pilot.@@N@@.Jvm.D
/-! MADE BY PROGRAM (witnessworld.py) out of the Statement's table words and the real class files: 13 classes; the members and pool entries that the words name. The judged class is class 1, her method 1. -/
namespace start1
open Jvm.ClassFile
def u (s : String) : CpInfo := .utf8 (stringToUtf16 s)
/-- a pool by its gaps: so many unusable entries, then the entry; so many at the end -/
def gap : Nat → List CpInfo → List CpInfo
  | 0, r => r
  | n + 1, r => .unusable :: gap n r
def poolList (es : List (Nat × CpInfo)) (last : Nat) : List CpInfo := es.foldr (fun e r => gap e.1 (e.2 :: r)) (gap last [])
def pool (es : List (Nat × CpInfo)) (last : Nat) : Array CpInfo := ⟨poolList es last⟩
def fileOf (pool : Array CpInfo) (this : Nat) (attrs : Array Attribute := #[]) (ms : Array MethodInfo := #[]) (fl : Nat := 33) (sup : Nat := 0) (ifs : Array Nat := #[]) (fds : Array FieldInfo := #[]) : ClassFile where
  minorVersion := 0
  majorVersion := 65
  constantPool := pool
  accessFlags := fl
  thisClass := this
  superClass := sup
  interfaces := ifs
  fields := fds
  methods := ms
  attributes := attrs
def plain (name : String) (sup : Option ClassId) : Class where
  name := name
  kind := .ordinary
  loader := none
  accessFlags := 33
  super := sup
  interfaces := #[]
  cf := none
  fields := #[]
  methods := #[]
  instanceTypes := #[]
  staticTypes := #[]
  resolved := #[]
  callSites := []
  init := .initialized
  statics := none
  mirror := none

def pool0 : Array CpInfo := pool [(5, u "<init>"), (0, u "()V"), (1, .class_ 10), (1, u "java/lang/Object"), (85, u "clone"), (0, u "()Ljava/lang/Object;")] 26

def k0m0 : Method := { name := "<init>", desc := "()V", sig := { parameters := [], returnType := none }, accessFlags := 1, code := none }
def k0m1 : Method := { name := "clone", desc := "()Ljava/lang/Object;", sig := { parameters := [], returnType := some (.object "java/lang/Object") }, accessFlags := 260, code := none }
/-- java/lang/Object -/
def k0 : Class := { plain "java/lang/Object" none with
  accessFlags := 33
  interfaces := #[]
  cf := some (fileOf pool0 8 #[] #[{ accessFlags := 1, nameIndex := 5, descriptorIndex := 6, attributes := #[] }, { accessFlags := 260, nameIndex := 96, descriptorIndex := 97, attributes := #[] }] 33 0 #[] #[])
  fields := #[]
  methods := #[k0m0, k0m1]
  instanceTypes := #[]
  staticTypes := #[]
  resolved := Array.replicate 124 none
  statics := none }

def pool1 : Array CpInfo := pool [(2, .class_ 4), (1, u "java/lang/Object"), (0, u "<init>"), (0, u "()V"), (0, .long 9223372036854775807), (1, .long 3), (1, .fieldref 12 13), (0, .class_ 14), (0, .nameAndType 15 16), (0, u "com/example/tallygate/tallygate/policy/ConditionCertificate$Type"), (0, u "DELEGATES_ONWARD"), (0, u "Lcom/example/tallygate/tallygate/policy/ConditionCertificate$Type;"), (0, .long 2), (1, .fieldref 12 20), (0, .nameAndType 21 16), (0, u "DELEGATES"), (0, .fieldref 12 23), (0, .nameAndType 24 16), (0, u "HOLDS"), (0, .methodref 12 26), (0, .nameAndType 27 28), (0, u "of"), (0, u "(J)Lcom/example/tallygate/tallygate/policy/ConditionCertificate$Type;"), (0, .methodref 12 30), (0, .nameAndType 31 32), (0, u "number"), (0, u "()I"), (0, .class_ 34), (0, u "com/example/tallygate/tallygate/policy/TypeOfPinLaw"), (2, u "law"), (0, u "(J)Z")] 7

def k1m0 : Method := { name := "<init>", desc := "()V", sig := { parameters := [], returnType := none }, accessFlags := 2, code := none }
def k1c1 : Code := { maxStack := 4, maxLocals := 6, code := code, exceptionTable := #[], attributes := #[] }
def k1m1 : Method := { name := "law", desc := "(J)Z", sig := { parameters := [.long], returnType := some .boolean }, accessFlags := 9, code := some k1c1 }
/-- com/example/tallygate/tallygate/policy/TypeOfPinLaw -/
def k1 : Class := { plain "com/example/tallygate/tallygate/policy/TypeOfPinLaw" (some 0) with
  accessFlags := 49
  interfaces := #[]
  cf := some (fileOf pool1 33 #[] #[{ accessFlags := 2, nameIndex := 5, descriptorIndex := 6, attributes := #[] }, { accessFlags := 9, nameIndex := 37, descriptorIndex := 38, attributes := #[] }] 49 2 #[] #[])
  fields := #[]
  methods := #[k1m0, k1m1]
  instanceTypes := #[]
  staticTypes := #[]
  resolved := Array.replicate 46 none
  statics := none }

def pool2 : Array CpInfo := pool [(1, .class_ 2), (0, u "java/lang/constant/Constable"), (0, .class_ 4), (0, u "java/lang/Object")] 6

/-- java/lang/constant/Constable -/
def k2 : Class := { plain "java/lang/constant/Constable" (some 0) with
  accessFlags := 1537
  interfaces := #[]
  cf := some (fileOf pool2 1 #[] #[] 1537 3 #[] #[])
  fields := #[]
  methods := #[]
  instanceTypes := #[]
  staticTypes := #[]
  resolved := Array.replicate 11 none
  statics := none }

def pool3 : Array CpInfo := pool [(1, .class_ 2), (0, u "java/lang/Comparable"), (0, .class_ 4), (0, u "java/lang/Object")] 7

/-- java/lang/Comparable -/
def k3 : Class := { plain "java/lang/Comparable" (some 0) with
  accessFlags := 1537
  interfaces := #[]
  cf := some (fileOf pool3 1 #[] #[] 1537 3 #[] #[])
  fields := #[]
  methods := #[]
  instanceTypes := #[]
  staticTypes := #[]
  resolved := Array.replicate 12 none
  statics := none }

def pool4 : Array CpInfo := pool [(1, .class_ 2), (0, u "java/io/Serializable"), (0, .class_ 4), (0, u "java/lang/Object")] 2

/-- java/io/Serializable -/
def k4 : Class := { plain "java/io/Serializable" (some 0) with
  accessFlags := 1537
  interfaces := #[]
  cf := some (fileOf pool4 1 #[] #[] 1537 3 #[] #[])
  fields := #[]
  methods := #[]
  instanceTypes := #[]
  staticTypes := #[]
  resolved := Array.replicate 7 none
  statics := none }

def pool5 : Array CpInfo := pool [(2, .class_ 4), (1, u "java/lang/Enum"), (0, u "name"), (0, u "Ljava/lang/String;"), (2, u "ordinal"), (0, u "I"), (1, .class_ 14), (1, u "java/lang/Object"), (4, u "hash"), (86, .class_ 108), (1, u "java/lang/Enum$EnumDesc"), (2, .class_ 112), (0, u "java/lang/constant/Constable"), (0, .class_ 114), (0, u "java/lang/Comparable"), (0, .class_ 116), (0, u "java/io/Serializable")] 87

/-- java/lang/Enum -/
def k5 : Class := { plain "java/lang/Enum" (some 0) with
  accessFlags := 1057
  interfaces := #[2, 3, 4]
  cf := some (fileOf pool5 2 #[.nestMembers #[106]] #[] 1057 12 #[111, 113, 115] #[{ accessFlags := 18, nameIndex := 5, descriptorIndex := 6, attributes := #[] }, { accessFlags := 18, nameIndex := 9, descriptorIndex := 10, attributes := #[] }, { accessFlags := 2, nameIndex := 19, descriptorIndex := 10, attributes := #[] }])
  fields := #[{ name := "name", type := (.object "java/lang/String"), accessFlags := 18, slot := 0, constantValue := 0 }, { name := "ordinal", type := .int, accessFlags := 18, slot := 1, constantValue := 0 }, { name := "hash", type := .int, accessFlags := 2, slot := 2, constantValue := 0 }]
  methods := #[]
  instanceTypes := #[(.object "java/lang/String"), .int, .int]
  staticTypes := #[]
  resolved := Array.replicate 204 none
  statics := none }

def pool6 : Array CpInfo := pool [(1, .class_ 2), (0, u "com/example/tallygate/tallygate/policy/ConditionCertificate$Type"), (2, u "DELEGATES_ONWARD"), (0, u "Lcom/example/tallygate/tallygate/policy/ConditionCertificate$Type;"), (2, u "DELEGATES"), (2, u "HOLDS"), (0, .fieldref 1 14), (0, .nameAndType 15 16), (0, u "$VALUES"), (0, u "[Lcom/example/tallygate/tallygate/policy/ConditionCertificate$Type;"), (0, .methodref 18 19), (0, .class_ 16), (0, .nameAndType 20 21), (0, u "clone"), (0, u "()Ljava/lang/Object;"), (1, .class_ 25), (1, u "java/lang/Enum"), (6, .fieldref 1 33), (0, .nameAndType 34 35), (0, u "number"), (0, u "I"), (0, .methodref 1 37), (0, .nameAndType 38 39), (0, u "values"), (0, u "()[Lcom/example/tallygate/tallygate/policy/ConditionCertificate$Type;"), (24, u "()I"), (0, u "of"), (0, u "(J)Lcom/example/tallygate/tallygate/policy/ConditionCertificate$Type;"), (7, .class_ 75), (0, u "com/example/tallygate/tallygate/policy/ConditionCertificate")] 16

def k6c0 : Code := { maxStack := 1, maxLocals := 0, code := prog_19_method_1_code, exceptionTable := #[], attributes := #[] }
def k6m0 : Method := { name := "values", desc := "()[Lcom/example/tallygate/tallygate/policy/ConditionCertificate$Type;", sig := { parameters := [], returnType := some (.array (.object "com/example/tallygate/tallygate/policy/ConditionCertificate$Type")) }, accessFlags := 9, code := some k6c0 }
def k6c1 : Code := { maxStack := 1, maxLocals := 1, code := prog_19_method_4_code, exceptionTable := #[], attributes := #[] }
def k6m1 : Method := { name := "number", desc := "()I", sig := { parameters := [], returnType := some .int }, accessFlags := 1, code := some k6c1 }
def k6c2 : Code := { maxStack := 4, maxLocals := 6, code := prog_19_method_5_code, exceptionTable := #[], attributes := #[] }
def k6m2 : Method := { name := "of", desc := "(J)Lcom/example/tallygate/tallygate/policy/ConditionCertificate$Type;", sig := { parameters := [.long], returnType := some (.object "com/example/tallygate/tallygate/policy/ConditionCertificate$Type") }, accessFlags := 9, code := some k6c2 }
/-- com/example/tallygate/tallygate/policy/ConditionCertificate$Type -/
def k6 : Class := { plain "com/example/tallygate/tallygate/policy/ConditionCertificate$Type" (some 5) with
  accessFlags := 16433
  interfaces := #[]
  cf := some (fileOf pool6 1 #[.nestHost 74] #[{ accessFlags := 9, nameIndex := 38, descriptorIndex := 39, attributes := #[] }, { accessFlags := 1, nameIndex := 34, descriptorIndex := 64, attributes := #[] }, { accessFlags := 9, nameIndex := 65, descriptorIndex := 66, attributes := #[] }] 16433 23 #[] #[{ accessFlags := 16409, nameIndex := 5, descriptorIndex := 6, attributes := #[] }, { accessFlags := 16409, nameIndex := 9, descriptorIndex := 6, attributes := #[] }, { accessFlags := 16409, nameIndex := 12, descriptorIndex := 6, attributes := #[] }, { accessFlags := 18, nameIndex := 34, descriptorIndex := 35, attributes := #[] }, { accessFlags := 4122, nameIndex := 15, descriptorIndex := 16, attributes := #[] }])
  fields := #[{ name := "DELEGATES_ONWARD", type := (.object "com/example/tallygate/tallygate/policy/ConditionCertificate$Type"), accessFlags := 16409, slot := 0, constantValue := 0 }, { name := "DELEGATES", type := (.object "com/example/tallygate/tallygate/policy/ConditionCertificate$Type"), accessFlags := 16409, slot := 1, constantValue := 0 }, { name := "HOLDS", type := (.object "com/example/tallygate/tallygate/policy/ConditionCertificate$Type"), accessFlags := 16409, slot := 2, constantValue := 0 }, { name := "number", type := .int, accessFlags := 18, slot := 3, constantValue := 0 }, { name := "$VALUES", type := (.array (.object "com/example/tallygate/tallygate/policy/ConditionCertificate$Type")), accessFlags := 4122, slot := 3, constantValue := 0 }]
  methods := #[k6m0, k6m1, k6m2]
  instanceTypes := #[(.object "java/lang/String"), .int, .int, .int]
  staticTypes := #[(.object "com/example/tallygate/tallygate/policy/ConditionCertificate$Type"), (.object "com/example/tallygate/tallygate/policy/ConditionCertificate$Type"), (.object "com/example/tallygate/tallygate/policy/ConditionCertificate$Type"), (.array (.object "com/example/tallygate/tallygate/policy/ConditionCertificate$Type"))]
  resolved := Array.replicate 92 none
  statics := some 0 }

def pool7 : Array CpInfo := pool [(1, .class_ 2), (0, u "java/lang/Cloneable"), (0, .class_ 4), (0, u "java/lang/Object")] 2

/-- java/lang/Cloneable -/
def k7 : Class := { plain "java/lang/Cloneable" (some 0) with
  accessFlags := 1537
  interfaces := #[]
  cf := some (fileOf pool7 1 #[] #[] 1537 3 #[] #[])
  fields := #[]
  methods := #[]
  instanceTypes := #[]
  staticTypes := #[]
  resolved := Array.replicate 7 none
  statics := none }

/-- the primitive byte -/
def k8 : Class := { plain "byte" none with kind := .primitive 'B', accessFlags := 0x411 }
/-- [B -/
def k9 : Class := { plain "[B" (some 0) with kind := .array 8 .byte, interfaces := #[7, 4], accessFlags := 1041 }

/-- the primitive int -/
def k10 : Class := { plain "int" none with kind := .primitive 'I', accessFlags := 0x411 }
/-- [I -/
def k11 : Class := { plain "[I" (some 0) with kind := .array 10 .int, interfaces := #[7, 4], accessFlags := 1041 }

/-- [Lcom/example/tallygate/tallygate/policy/ConditionCertificate$Type; -/
def k12 : Class := { plain "[Lcom/example/tallygate/tallygate/policy/ConditionCertificate$Type;" (some 0) with kind := .array 6 (.object "com/example/tallygate/tallygate/policy/ConditionCertificate$Type"), interfaces := #[7, 4], accessFlags := 1041 }

def heap : Heap := #[{ cls := 6, slots := #[.ref 2, .ref 3, .ref 4, .ref 1], vm := .statics 6 },
  { cls := 12, slots := #[.ref 2, .ref 3, .ref 4], vm := .none },
  { cls := 6, slots := #[.null, .int 0, .int 0, .int 1], vm := .none },
  { cls := 6, slots := #[.null, .int 1, .int 0, .int 2], vm := .none },
  { cls := 6, slots := #[.null, .int 2, .int 0, .int 3], vm := .none }]
def classes : Array Class := #[k0, k1, k2, k3, k4, k5, k6, k7, k8, k9, k10, k11, k12]
def interned : List (Array UInt16 × Addr) := []
def slotsUsed : Nat := 19
def theMethod : MethodId := ⟨1, 1⟩
def args0 : Array Value := #[.long 5]
def aboutOver (below : List Frame) : State where
  vm := { classes := classes, interned := interned.toArray }
  heap := heap
  slotsUsed := slotsUsed
  threads := #[{ frames := .invoking theMethod args0 :: below }]
def below0 : List Frame := [.native { method := ⟨0, 0⟩, args := #[] }]
def about1 : State := aboutOver below0
def p0 : Program := .bare "" "" ""
def e0 : Env := launch0.env 0 0 0
theorem w_frames : about1.frames = Frame.invoking theMethod args0 :: below0 := rfl
set_option maxRecDepth 65536 in
theorem w_args : argsFit about1.vm theMethod args0 = true := by decide +kernel
set_option maxRecDepth 65536 in
theorem w_heap : heapFits about1 = true := by decide +kernel
set_option maxRecDepth 65536 in
theorem w_runnable : about1.curStatus? = some .runnable := by decide +kernel
set_option maxRecDepth 65536 in
theorem w_alone : about1.alone = true := by decide +kernel
set_option maxRecDepth 65536 in
theorem w_named : about1.methodNamed? x = some theMethod := by decide +kernel
set_option maxRecDepth 65536 in
theorem w_hears : about1.hears theMethod below0 = true := by decide +kernel
set_option maxRecDepth 65536 in
theorem w_ripe : about1.ripe theMethod args0 below0 = true := by decide +kernel
theorem w_running : about1.status = .running := rfl
set_option maxRecDepth 65536 in
theorem w_room : about1.hasRoom e0.platform room_1 = true :=
  launch0.hasRoom_least _ room_1 (by decide +kernel) (by decide +kernel) (by decide +kernel) (by decide +kernel) (by decide +kernel) (by decide +kernel)
theorem allAtoms_all (ts : List Jvm.Cond) (a : Array Jvm.Value) (st : Jvm.State) : (allAtoms ts).before a st = ts.all (fun c => c.before a st) := by
  induction ts with
  | nil => rfl
  | cons c t ih =>
    show (Jvm.Cond.and c (allAtoms t)).before a st = _
    rw [Jvm.Cond.before_and, ih, List.all_cons]
def words1 : List Jvm.Cond := Jvm.Cond.code x code maxLocals ret :: tables_1
/-- a 'code' word, met by the world's own term for the bytes: nothing is compared byte by byte -/
theorem code_word {y : MethodName} {bytes : ByteArray} {mx : Nat} {rt : Option FieldType} {a : Array Value} {s : State} {m : MethodId} {meth : Method} {c : Code} (h1 : s.methodNamed? y = some m) (h2 : s.vm.method? m = some meth) (h3 : meth.code = some c) (h4 : c.code = bytes)
    (h5 : (c.maxLocals == mx && c.exceptionTable.isEmpty && decide (c.maxStack ≤ mostOperands) && decide (meth.sig.returnType = rt) && !meth.locks && decide (parseMethodDescriptor y.desc = some meth.sig)) = true) : (Jvm.Cond.code y bytes mx rt).before a s = true := by
  simp only [Bool.and_eq_true, beq_iff_eq, Bool.not_eq_true', decide_eq_true_eq] at h5
  obtain ⟨⟨⟨⟨⟨g1, g2⟩, g3⟩, g4⟩, g5⟩, g6⟩ := h5
  simp [Cond.before, Cond.holds, Cond.value, h1, h2, h3, h4, g1, g2, g3, g4, g5, g6]
def isCode : Jvm.Cond → Bool
  | .code _ _ _ _ => true
  | _ => false
theorem all_split {L : List Jvm.Cond} {P : Jvm.Cond → Bool} (h1 : L.all (fun c => isCode c || P c) = true) (h2 : ∀ c ∈ L.filter isCode, P c = true) : L.all P = true := by
  refine List.all_eq_true.mpr fun c hc => ?_
  have h := List.all_eq_true.mp h1 c hc
  rcases Bool.eq_false_or_eq_true (isCode c) with hi | hi
  · exact h2 c (List.mem_filter.mpr ⟨hc, hi⟩)
  · simpa [hi] using h
set_option maxRecDepth 65536 in
theorem w_c0 : (Jvm.Cond.code x code maxLocals ret).before args0 about1 = true := code_word (m := ⟨1, 1⟩) (meth := k1m1) (c := k1c1) (by decide +kernel) rfl rfl rfl (by decide +kernel)
set_option maxRecDepth 65536 in
theorem w_c1 : (Jvm.Cond.code ({ cls := "com/example/tallygate/tallygate/policy/ConditionCertificate$Type", name := "of", desc := "(J)Lcom/example/tallygate/tallygate/policy/ConditionCertificate$Type;" } : Jvm.MethodName) prog_19_method_5_code (6 : Nat) (Option.some (Jvm.ClassFile.FieldType.object "com/example/tallygate/tallygate/policy/ConditionCertificate$Type"))).before args0 about1 = true := code_word (m := ⟨6, 2⟩) (meth := k6m2) (c := k6c2) (by decide +kernel) rfl rfl rfl (by decide +kernel)
set_option maxRecDepth 65536 in
theorem w_c2 : (Jvm.Cond.code ({ cls := "com/example/tallygate/tallygate/policy/ConditionCertificate$Type", name := "values", desc := "()[Lcom/example/tallygate/tallygate/policy/ConditionCertificate$Type;" } : Jvm.MethodName) prog_19_method_1_code (0 : Nat) (Option.some (Jvm.ClassFile.FieldType.array (Jvm.ClassFile.FieldType.object "com/example/tallygate/tallygate/policy/ConditionCertificate$Type")))).before args0 about1 = true := code_word (m := ⟨6, 0⟩) (meth := k6m0) (c := k6c0) (by decide +kernel) rfl rfl rfl (by decide +kernel)
set_option maxRecDepth 65536 in
theorem w_c3 : (Jvm.Cond.code ({ cls := "com/example/tallygate/tallygate/policy/ConditionCertificate$Type", name := "number", desc := "()I" } : Jvm.MethodName) prog_19_method_4_code (1 : Nat) (Option.some Jvm.ClassFile.FieldType.int)).before args0 about1 = true := code_word (m := ⟨6, 1⟩) (meth := k6m1) (c := k6c1) (by decide +kernel) rfl rfl rfl (by decide +kernel)
def codes1 : List Jvm.Cond := [Jvm.Cond.code x code maxLocals ret, Jvm.Cond.code ({ cls := "com/example/tallygate/tallygate/policy/ConditionCertificate$Type", name := "of", desc := "(J)Lcom/example/tallygate/tallygate/policy/ConditionCertificate$Type;" } : Jvm.MethodName) prog_19_method_5_code (6 : Nat) (Option.some (Jvm.ClassFile.FieldType.object "com/example/tallygate/tallygate/policy/ConditionCertificate$Type")), Jvm.Cond.code ({ cls := "com/example/tallygate/tallygate/policy/ConditionCertificate$Type", name := "values", desc := "()[Lcom/example/tallygate/tallygate/policy/ConditionCertificate$Type;" } : Jvm.MethodName) prog_19_method_1_code (0 : Nat) (Option.some (Jvm.ClassFile.FieldType.array (Jvm.ClassFile.FieldType.object "com/example/tallygate/tallygate/policy/ConditionCertificate$Type"))), Jvm.Cond.code ({ cls := "com/example/tallygate/tallygate/policy/ConditionCertificate$Type", name := "number", desc := "()I" } : Jvm.MethodName) prog_19_method_4_code (1 : Nat) (Option.some Jvm.ClassFile.FieldType.int)]
set_option maxRecDepth 65536 in
theorem codes_eq : words1.filter isCode = codes1 := rfl
theorem w_codes : ∀ c ∈ words1.filter isCode, c.before args0 about1 = true := by
  rw [codes_eq]
  intro c hc
  simp only [codes1, List.mem_cons, List.not_mem_nil, or_false] at hc
  rcases hc with rfl | rfl | rfl | rfl
  · exact w_c0
  · exact w_c1
  · exact w_c2
  · exact w_c3
set_option maxRecDepth 65536 in
theorem w_t1 : (words1.take 24).all (fun c => isCode c || c.before args0 about1) = true := by decide +kernel
set_option maxRecDepth 65536 in
theorem w_t2 : (words1.drop 24).all (fun c => isCode c || c.before args0 about1) = true := by decide +kernel
theorem w_tables : (allAtoms (Jvm.Cond.code x code maxLocals ret :: tables_1)).before args0 about1 = true := by
  rw [allAtoms_all]
  show words1.all (fun c => c.before args0 about1) = true
  refine all_split ?_ w_codes
  rw [← List.take_append_drop 24 words1, List.all_append, w_t1, w_t2]
  rfl
set_option maxRecDepth 65536 in
theorem w_case : (Jvm.Cond.and given_1 narrow_1).before args0 about1 = true := by decide +kernel
theorem w_applies : (headSpec (Jvm.Cond.code x code maxLocals ret :: tables_1) room_1).applies x e0.platform about1 = true :=
  (Spec.applies_iff w_frames).mpr ⟨w_running, w_runnable, w_alone, w_named, w_hears, w_ripe, w_room, w_tables⟩
theorem atStart : AtStart classFile x code maxLocals ret World_1 tables_1 room_1 Calls_1 rest_1 Pre_1 launch0 p0 e0 about1 theMethod args0 below0 :=
  ⟨lists_1, trivial, launch0.admits_env _ _ _, launch0.least_env, fairChoices_fair.cas, fairChoices_fair.clock, w_frames, w_args, w_heap, w_applies, trivial, trivial, w_case⟩
end start1
theorem witness_1 : WitnessClaimed_1 := ⟨start1.p0, start1.e0, start1.about1, start1.theMethod, start1.args0, start1.below0, start1.atStart⟩
end Jvm.Pilot.@@N@@
