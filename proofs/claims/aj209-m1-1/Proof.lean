import JvmDerived
import JvmDerived.Pilot.@@N@@Statement
import JvmDerived.Pilot.@@N@@Code
set_option linter.unusedVariables false
set_option linter.unusedSimpArgs false
namespace Jvm.Pilot.@@N@@
open Jvm Jvm.ClassFile Sem Op Lib Jvm.Free Jvm.Stand Jvm.LawKit Jvm.RoadKit Bundle Jvm.Pilot.@@N@@.Jvm.D
section Own
variable {p : Program} {l : Launch} {e : Env} {R : Room} {s : State} {m : MethodId} {args : Array Value} {below : List Frame} {meth : Method} {c : Code} {T : State} {locs : List Loc} {cells slots : Nat} {Z : State} {a0 : Array Value} {K : State → Outcome → Prop} {pc pc' : Nat} {Ls : Array Slot} {st : List Value} {h : Heap}
/-- from here the run ends, and what is left is as K says -/
def own_Go (p : Program) (e : Env) (below : List Frame) (K : State → Outcome → Prop) (T : State) (f : JFrame) : Prop :=
  ∃ s₂ o, Steps p.tables e below (T.setTop f) s₂ ∧ s₂.status = .running ∧ Ended s₂ below o ∧ K s₂ o
def own_K (Q : Option Value → Heap → List Loc → Prop) (s : State) (cs ss : Nat) : State → Outcome → Prop := fun u o => ∃ v L, o = .returned v ∧ Q v u.heap L ∧ FrameEnd s o u L cs ss
theorem own_go {T' : State} {f f' : JFrame} (h : ∀ t, Steps p.tables e below (T'.setTop f') t → Steps p.tables e below (T.setTop f) t) (k : own_Go p e below K T' f') : own_Go p e below K T f := by
  obtain ⟨a, b, c, d⟩ := k
  exact ⟨a, b, h _ c, d⟩
theorem own_w {tb : List Jvm.Cond} (hw : ∀ d ∈ tb, d.before a0 Z = true) {d : Jvm.Cond} (k : Nat) (h : tb[k]? = some d) : d.before a0 Z = true := hw _ (List.mem_of_getElem? h)
/-- a method's contract: called with these arguments over this heap it returns, and Q says what it leaves -/
abbrev own_Met (l : Launch) (Z : State) (y : MethodName) (bytes : ByteArray) (mx : Nat) (rt : Option FieldType) (ws : List Jvm.Cond) (rm : Room) (as : Array Value) (h0 : Heap) (Q : Option Value → Heap → List Loc → Prop) : Prop :=
  MetFree l y (head1 (Jvm.Cond.code y bytes mx rt :: ws) rm) (fun a U => a = as ∧ Z.Warmed39 U.vm ∧ U.heap = h0) (fun _ _ _ _ _ => True) (fun _ U o U' => ∃ v L, o = .returned v ∧ Q v U'.heap L ∧ FrameEnd U o U' L rm.cells rm.slots)
theorem own_body {y : MethodName} {bytes : ByteArray} {mx : Nat} {rt : Option FieldType} {ws : List Jvm.Cond} {rm : Room} {as : Array Value} {h0 : Heap} {Q : Option Value → Heap → List Loc → Prop} (hp : plainFor y = true)
    (body : ∀ (p : Program) (e : Env) (s : State) (m : MethodId) (below : List Frame) (meth : Method) (c : Code) (T : State), Stand p l e rm s m as below meth c T [] 0 0 → p.tables.exec = Jvm.exec → c.code = bytes → c.maxLocals = mx → meth.sig.returnType = rt → meth.locks = false → Z.Warmed39 s.vm → s.vm.findClass y.cls = some m.cls → meth.name = y.name → T.heap = h0 →
      own_Go p e below (own_K Q s rm.cells rm.slots) T (entryFrame m as mx)) : own_Met l Z y bytes mx rt ws rm as h0 Q := by
  refine MetFree.of_bodySF hp hisR ?_
  intro p e s m args below meth c s₁ Bd hml0 hP hK
  obtain ⟨rfl, hZ, hh⟩ := hP
  exact body p e s m below meth c s₁ (Stand.of_body Bd) Bd.exec Bd.bytes hml0 Bd.returns Bd.notSynchronized hZ (findClass_of_methodNamed Bd.named) (name_of_methodNamed Bd.named Bd.method).1 (by rw [← hh, Bd.state]; rfl)
theorem own_ret (X : Stand p l e R s m args below meth c T locs cells slots) (hx : p.tables.exec = Jvm.exec) {Q : Option Value → Heap → List Loc → Prop} {cs ss : Nat} {w : Value} {t : FieldType} {i : Instr} {rest : List Value} (hlk : meth.locks = false) (hret : meth.sig.returnType = some t) (hd : decode c.code pc = .ok (i, 1)) (hn : narrow t w = w)
    (hi : (i = .ireturn ∧ (t = .int ∨ t = .boolean ∨ t = .byte ∨ t = .char ∨ t = .short) ∧ ∃ z, w = .int z) ∨ (i = .lreturn ∧ t = .long ∧ ∃ z, w = .long z) ∨ (i = .dreturn ∧ t = .double ∧ ∃ z, w = .double z) ∨ (i = .freturn ∧ t = .float ∧ ∃ z, w = .float z) ∨ (i = .areturn ∧ t.isReference = true ∧ w.isRef = true))
    (hc : cells ≤ cs) (hs : slots ≤ ss) (hq : Q (some w) T.heap locs) : own_Go p e below (own_K Q s cs ss) T (mkF m pc Ls (w :: rest)) := by
  obtain ⟨fs, hr, hrun, hended, hW, hsame⟩ := X.leave (v := some w) (fun h => by rw [hret] at h; cases h) hlk
  exact ⟨_, _, retOut X hx hret hn hi hd hr, hrun, hended, _, _, rfl, hq, ⟨_, rfl⟩, hW, hsame.mono hc hs⟩
theorem own_retI (X : Stand p l e R s m args below meth c T locs cells slots) (hx : p.tables.exec = Jvm.exec) {Q : Option Value → Heap → List Loc → Prop} {cs ss : Nat} {z : Int32} {rest : List Value} (hlk : meth.locks = false) (hret : meth.sig.returnType = some .int) (hd : decode c.code pc = .ok (.ireturn, 1)) (hc : cells ≤ cs) (hs : slots ≤ ss) (hq : Q (some (.int z)) T.heap locs) : own_Go p e below (own_K Q s cs ss) T (mkF m pc Ls (.int z :: rest)) :=
  own_ret X hx hlk hret hd rfl (Or.inl ⟨rfl, Or.inl rfl, z, rfl⟩) hc hs hq
theorem own_retZ (X : Stand p l e R s m args below meth c T locs cells slots) (hx : p.tables.exec = Jvm.exec) {Q : Option Value → Heap → List Loc → Prop} {cs ss : Nat} {z : Int32} {rest : List Value} (hlk : meth.locks = false) (hret : meth.sig.returnType = some .boolean) (hd : decode c.code pc = .ok (.ireturn, 1)) (hn : z = 0 ∨ z = 1) (hc : cells ≤ cs) (hs : slots ≤ ss) (hq : Q (some (.int z)) T.heap locs) : own_Go p e below (own_K Q s cs ss) T (mkF m pc Ls (.int z :: rest)) :=
  own_ret X hx hlk hret hd (by rcases hn with rfl | rfl <;> rfl) (Or.inl ⟨rfl, Or.inr (Or.inl rfl), z, rfl⟩) hc hs hq
theorem own_retJ (X : Stand p l e R s m args below meth c T locs cells slots) (hx : p.tables.exec = Jvm.exec) {Q : Option Value → Heap → List Loc → Prop} {cs ss : Nat} {z : Int64} {rest : List Value} (hlk : meth.locks = false) (hret : meth.sig.returnType = some .long) (hd : decode c.code pc = .ok (.lreturn, 1)) (hc : cells ≤ cs) (hs : slots ≤ ss) (hq : Q (some (.long z)) T.heap locs) : own_Go p e below (own_K Q s cs ss) T (mkF m pc Ls (.long z :: rest)) :=
  own_ret X hx hlk hret hd rfl (Or.inr (Or.inl ⟨rfl, rfl, z, rfl⟩)) hc hs hq
theorem own_retA (X : Stand p l e R s m args below meth c T locs cells slots) (hx : p.tables.exec = Jvm.exec) {Q : Option Value → Heap → List Loc → Prop} {cs ss : Nat} {w : Value} {t : FieldType} {rest : List Value} (hlk : meth.locks = false) (hret : meth.sig.returnType = some t) (hd : decode c.code pc = .ok (.areturn, 1)) (ht : t.isReference = true) (hv : w.isRef = true) (hc : cells ≤ cs) (hs : slots ≤ ss) (hq : Q (some w) T.heap locs) : own_Go p e below (own_K Q s cs ss) T (mkF m pc Ls (w :: rest)) :=
  own_ret X hx hlk hret hd (by rcases ref_cases hv with rfl | ⟨a, rfl⟩ <;> cases t <;> first | rfl | cases ht) (Or.inr (Or.inr (Or.inr (Or.inr ⟨rfl, ht, hv⟩)))) hc hs hq
theorem own_retV (X : Stand p l e R s m args below meth c T locs cells slots) (hx : p.tables.exec = Jvm.exec) {Q : Option Value → Heap → List Loc → Prop} {cs ss : Nat} (hlk : meth.locks = false) (hret : meth.sig.returnType = none) (hd : decode c.code pc = .ok (.return_, 1)) (hc : cells ≤ cs) (hs : slots ≤ ss) (hq : Q none T.heap locs) : own_Go p e below (own_K Q s cs ss) T (mkF m pc Ls []) := by
  obtain ⟨fs, hr, hrun, hended, hW, hsame⟩ := X.leave (v := none) (fun _ => rfl) hlk
  exact ⟨_, _, X.returnOut hx hret hd hr, hrun, hended, _, _, rfl, hq, ⟨_, rfl⟩, hW, hsame.mono hc hs⟩
/-- the two roads of a conditional branch -/
theorem own_if (X : Stand p l e R s m args below meth c T locs cells slots) (hx : p.tables.exec = Jvm.exec) {cd : ClassFile.Cond} {o : Int} {z : Int32} {rest : List Value} (hd : decode c.code pc = .ok (.ifCond cd o, 3)) (ho : 0 ≤ (pc : Int) + o) (hp : ((pc : Int) + o).toNat = pc') {pc1 : Nat} (hp1 : pc + 3 = pc1) (P : Prop) (h1 : P → ifCond.holds cd z = true) (h2 : ¬ P → ifCond.holds cd z = false)
    (kt : P → own_Go p e below K T (mkF m pc' Ls rest)) (kf : ¬ P → own_Go p e below K T (mkF m pc1 Ls rest)) : own_Go p e below K T (mkF m pc Ls (.int z :: rest)) := by
  subst hp1
  by_cases q : P
  · exact own_go (fun t k => XS.ifYes X.here hx (g := mkF m pc Ls (.int z :: rest)) rfl (pc0 := pc) (pc' := pc') rfl hd rfl (h1 q) ho hp k) (kt q)
  · exact own_go (fun t k => XS.ifNo X.here hx (g := mkF m pc Ls (.int z :: rest)) rfl hd rfl (h2 q) k) (kf q)
theorem own_icmp (X : Stand p l e R s m args below meth c T locs cells slots) (hx : p.tables.exec = Jvm.exec) {cd : ClassFile.Cond} {o : Int} {y z : Int32} {rest : List Value} (hd : decode c.code pc = .ok (.if_icmp cd o, 3)) (ho : 0 ≤ (pc : Int) + o) (hp : ((pc : Int) + o).toNat = pc') {pc1 : Nat} (hp1 : pc + 3 = pc1) (P : Prop) (h1 : P → if_icmp.holds cd y z = true) (h2 : ¬ P → if_icmp.holds cd y z = false)
    (kt : P → own_Go p e below K T (mkF m pc' Ls rest)) (kf : ¬ P → own_Go p e below K T (mkF m pc1 Ls rest)) : own_Go p e below K T (mkF m pc Ls (.int z :: .int y :: rest)) := by
  subst hp1
  by_cases q : P
  · exact own_go (fun t k => XS.icmpYes X.here hx (g := mkF m pc Ls (.int z :: .int y :: rest)) rfl (pc0 := pc) (pc' := pc') rfl hd rfl (h1 q) ho hp k) (kt q)
  · exact own_go (fun t k => XS.icmpNo X.here hx (g := mkF m pc Ls (.int z :: .int y :: rest)) rfl hd rfl (h2 q) k) (kf q)
theorem own_callS (X : Stand p l e R s m args below meth c T locs cells slots) (hx : p.tables.exec = Jvm.exec) (hZ : Z.Warmed39 s.vm) {own : String} {index : Nat} {y : MethodName} {bytes : ByteArray} {mx : Nat} {rt : Option FieldType} {rm : Room} {argsL rest : List Value} {Q : Option Value → Heap → List Loc → Prop}
    (hown : s.vm.findClass own = some m.cls) (w1 : (Jvm.Cond.methodLink own index y).before a0 Z = true) (w2 : (Jvm.Cond.static y).before a0 Z = true) (w3 : (Jvm.Cond.initialized y.cls).before a0 Z = true) (w4 : (Jvm.Cond.code y bytes mx rt).before a0 Z = true) (hy : y.cls ≠ "java/lang/invoke/MethodHandle" ∧ y.cls ≠ "java/lang/invoke/VarHandle")
    (eT : T.heap = h) (hM : own_Met l Z y bytes mx rt [] rm argsL.toArray h Q) (W : Nat) (hf : rm.frames + 1 ≤ R.frames) (hl : W + (mx + 11) + rm.locals ≤ R.locals) (hcl : cells + rm.cells ≤ R.cells) (hsl : slots + rm.slots ≤ R.slots) (hsz : Ls.size = c.maxLocals) (hlen : ∀ sig, parseMethodDescriptor y.desc = some sig → argsL.length = sig.parameters.length)
    (hst : st = argsL.reverse ++ rest) (hW : (rest.map fun v => v.category).sum ≤ W) (hd : decode c.code pc = .ok (.invokestatic index, 3)) :
    ∃ v T' L, Stand p l e R s m args below meth c T' (locs ++ L) (cells + rm.cells) (slots + rm.slots) ∧ Q v T'.heap L ∧ ∀ t, Steps p.tables e below (T'.setTop (mkF m (pc + 3) Ls (v.toList ++ rest))) t → Steps p.tables e below (T.setTop (mkF m pc Ls st)) t := by
  obtain ⟨v, vm1, ⟨T', L', k', n'⟩, -, X', ⟨L, hQ, l1, l2, l3⟩, stp⟩ := Jvm.LawKit.callS X hx (y := y) hown (mvT hZ w1) (mvT hZ w2) (mvT hZ w3) (mvT hZ w4) hy (backOf (W := W) hM hZ w4 w3 hf hl) (g := mkF m pc Ls st) rfl hsz (argsL := argsL) (rest := rest) hlen hst (by show 2 * 0 + _ ≤ _; omega) hd (fun _ _ => ⟨rfl, eT, hcl, hsl⟩)
  dsimp only [Pt.U, Pt.locs, Pt.cells, Pt.slots] at X' l1 l2 l3 stp hQ
  subst l1 l2 l3
  exact ⟨v, T', L, X', hQ, stp⟩
theorem own_callV (X : Stand p l e R s m args below meth c T locs cells slots) (hx : p.tables.exec = Jvm.exec) (hZ : Z.Warmed39 s.vm) {own C : String} {index : Nat} {y z : MethodName} {bytes : ByteArray} {mx : Nat} {rt : Option FieldType} {rm : Room} {b : Addr} {argsL rest : List Value} {Q : Option Value → Heap → List Loc → Prop}
    (hown : s.vm.findClass own = some m.cls) (w1 : (Jvm.Cond.methodLink own index y).before a0 Z = true) (w2 : (Jvm.Cond.declares y).before a0 Z = true) (w3 : (Jvm.Cond.selects C y z).before a0 Z = true) (hnf : NotFace s y) (w4 : (Jvm.Cond.instanceMethod z).before a0 Z = true) (w5 : (Jvm.Cond.code z bytes mx rt).before a0 Z = true) (w6 : (Jvm.Cond.initialized z.cls).before a0 Z = true) (hy : y.cls ≠ "java/lang/invoke/MethodHandle" ∧ y.cls ≠ "java/lang/invoke/VarHandle")
    (eT : T.heap = h) (E : Exa Z h b C) (hM : own_Met l Z z bytes mx rt [] rm (.ref b :: argsL).toArray h Q) (W : Nat) (hf : rm.frames + 1 ≤ R.frames) (hl : W + (mx + 11) + rm.locals ≤ R.locals) (hcl : cells + rm.cells ≤ R.cells) (hsl : slots + rm.slots ≤ R.slots) (hsz : Ls.size = c.maxLocals) (hlen : ∀ sig, parseMethodDescriptor y.desc = some sig → argsL.length = sig.parameters.length)
    (hst : st = argsL.reverse ++ .ref b :: rest) (hW : (rest.map fun v => v.category).sum ≤ W) (hd : decode c.code pc = .ok (.invokevirtual index, 3)) :
    ∃ v T' L, Stand p l e R s m args below meth c T' (locs ++ L) (cells + rm.cells) (slots + rm.slots) ∧ Q v T'.heap L ∧ ∀ t, Steps p.tables e below (T'.setTop (mkF m (pc + 3) Ls (v.toList ++ rest))) t → Steps p.tables e below (T.setTop (mkF m pc Ls st)) t := by
  obtain ⟨cq, kq, q1, q2, q3⟩ := isOf hZ eT E
  obtain ⟨v, vm1, ⟨T', L', k', n'⟩, -, X', ⟨L, hQ, l1, l2, l3⟩, stp⟩ := X.virtualBack hx (y := y) (z := z) hown (mvT hZ w1) (mvT hZ w2) hnf (mvT hZ w3) (mvT hZ w4) hy (backOf (W := W) hM hZ w5 w6 hf hl) q1 q3 (g := mkF m pc Ls st) rfl hsz (Steps.refl _) (argsL := argsL) (rest := rest) hlen hst (by show 2 * 0 + _ ≤ _; omega) hd (fun _ _ => ⟨rfl, eT, hcl, hsl⟩)
  dsimp only [Pt.U, Pt.locs, Pt.cells, Pt.slots] at X' l1 l2 l3 stp hQ
  subst l1 l2 l3
  exact ⟨v, T', L, X', hQ, fun t k => stp.trans k⟩
theorem own_callU (X : Stand p l e R s m args below meth c T locs cells slots) (hx : p.tables.exec = Jvm.exec) (hZ : Z.Warmed39 s.vm) {own C owner : String} {index : Nat} {y z : MethodName} {bytes : ByteArray} {mx : Nat} {rt : Option FieldType} {rm : Room} {b : Addr} {argsL rest : List Value} {Q : Option Value → Heap → List Loc → Prop}
    (hown : s.vm.findClass own = some m.cls) (w1 : (Jvm.Cond.methodLink own index y).before a0 Z = true) (w2 : (Jvm.Cond.sameMethod y.cls owner y.name y.desc).before a0 Z = true) (w2' : (Jvm.Cond.declares ⟨owner, y.name, y.desc⟩).before a0 Z = true) (w3 : (Jvm.Cond.selects C y z).before a0 Z = true) (w4 : (Jvm.Cond.instanceMethod z).before a0 Z = true) (w5 : (Jvm.Cond.code z bytes mx rt).before a0 Z = true) (w6 : (Jvm.Cond.initialized z.cls).before a0 Z = true) (hy : owner ≠ "java/lang/invoke/MethodHandle" ∧ owner ≠ "java/lang/invoke/VarHandle")
    (eT : T.heap = h) (E : Exa Z h b C) (hM : own_Met l Z z bytes mx rt [] rm (.ref b :: argsL).toArray h Q) (W : Nat) (hf : rm.frames + 1 ≤ R.frames) (hl : W + (mx + 11) + rm.locals ≤ R.locals) (hcl : cells + rm.cells ≤ R.cells) (hsl : slots + rm.slots ≤ R.slots) (hsz : Ls.size = c.maxLocals) (hlen : ∀ sig, parseMethodDescriptor y.desc = some sig → argsL.length = sig.parameters.length)
    (hst : st = argsL.reverse ++ .ref b :: rest) (hW : (rest.map fun v => v.category).sum ≤ W) (hd : decode c.code pc = .ok (.invokevirtual index, 3)) :
    ∃ v T' L, Stand p l e R s m args below meth c T' (locs ++ L) (cells + rm.cells) (slots + rm.slots) ∧ Q v T'.heap L ∧ ∀ t, Steps p.tables e below (T'.setTop (mkF m (pc + 3) Ls (v.toList ++ rest))) t → Steps p.tables e below (T.setTop (mkF m pc Ls st)) t := by
  obtain ⟨cq, kq, q1, q2, q3⟩ := isOf hZ eT E
  obtain ⟨v, vm1, ⟨T', L', k', n'⟩, -, X', ⟨L, hQ, l1, l2, l3⟩, stp⟩ := X.virtualBackUp hx (x := y) (y := z) hown (mvT hZ w1) (mvT hZ w2) (mvT hZ w2') hy (mvT hZ w3) (mvT hZ w4) (backOf (W := W) hM hZ w5 w6 hf hl) q1 q3 (g := mkF m pc Ls st) rfl hsz (Steps.refl _) (argsL := argsL) (rest := rest) hlen hst (by show 2 * 0 + _ ≤ _; omega) hd (fun _ _ => ⟨rfl, eT, hcl, hsl⟩)
  dsimp only [Pt.U, Pt.locs, Pt.cells, Pt.slots] at X' l1 l2 l3 stp hQ
  subst l1 l2 l3
  exact ⟨v, T', L, X', hQ, fun t k => stp.trans k⟩
theorem own_callC (X : Stand p l e R s m args below meth c T locs cells slots) (hx : p.tables.exec = Jvm.exec) (hZ : Z.Warmed39 s.vm) {own : String} {index : Nat} {y : MethodName} {bytes : ByteArray} {mx : Nat} {rm : Room} {b : Addr} {argsL rest : List Value} {Q : Option Value → Heap → List Loc → Prop}
    (hy1 : y.name = "<init>") (hown : s.vm.findClass own = some m.cls) (w1 : (Jvm.Cond.methodLink own index y).before a0 Z = true) (w4 : (Jvm.Cond.instanceMethod y).before a0 Z = true) (w5 : (Jvm.Cond.code y bytes mx none).before a0 Z = true) (w6 : (Jvm.Cond.initialized y.cls).before a0 Z = true) (hy : y.cls ≠ "java/lang/invoke/MethodHandle" ∧ y.cls ≠ "java/lang/invoke/VarHandle")
    (eT : T.heap = h) (hM : own_Met l Z y bytes mx none [] rm (.ref b :: argsL).toArray h Q) (W : Nat) (hf : rm.frames + 1 ≤ R.frames) (hl : W + (mx + 11) + rm.locals ≤ R.locals) (hcl : cells + rm.cells ≤ R.cells) (hsl : slots + rm.slots ≤ R.slots) (hsz : Ls.size = c.maxLocals) (hlen : ∀ sig, parseMethodDescriptor y.desc = some sig → argsL.length = sig.parameters.length)
    (hst : st = argsL.reverse ++ .ref b :: rest) (hW : (rest.map fun v => v.category).sum ≤ W) (hd : decode c.code pc = .ok (.invokespecial index, 3)) :
    ∃ v T' L, Stand p l e R s m args below meth c T' (locs ++ L) (cells + rm.cells) (slots + rm.slots) ∧ Q v T'.heap L ∧ ∀ t, Steps p.tables e below (T'.setTop (mkF m (pc + 3) Ls (v.toList ++ rest))) t → Steps p.tables e below (T.setTop (mkF m pc Ls st)) t := by
  obtain ⟨v, vm1, ⟨T', L', k', n'⟩, -, X', ⟨L, hQ, l1, l2, l3⟩, stp⟩ := X.specialBack hx (y := y) hy1 hown (mvT hZ w1) (mvT hZ w4) (mvT hZ w5) hy (backOf (W := W) hM hZ w5 w6 hf hl) (g := mkF m pc Ls st) rfl hsz (Steps.refl _) (a := b) (argsL := argsL) (rest := rest) hlen hst (by show 2 * 0 + _ ≤ _; omega) hd (fun _ _ => ⟨rfl, eT, hcl, hsl⟩)
  dsimp only [Pt.U, Pt.locs, Pt.cells, Pt.slots] at X' l1 l2 l3 stp hQ
  subst l1 l2 l3
  exact ⟨v, T', L, X', hQ, fun t k => stp.trans k⟩
end Own
section OwnStart
variable {Z : State} {args : Array Value} {t u : Term} {a : Addr} {C n d : String}
theorem own_eqI {k : Int32} (h : (Jvm.Cond.eq t (.int k)).value args Z none Z [] = some true) : t.eval args Z none [] Z = some (.int k) := by
  simp only [Cond.value, Term.eval] at h
  cases ht : t.eval args Z none [] Z with
  | none => simp [ht] at h
  | some x => cases x <;> simp [ht] at h ⊢; exact h
theorem own_eqJ {k : Int64} (h : (Jvm.Cond.eq t (.long k)).value args Z none Z [] = some true) : t.eval args Z none [] Z = some (.long k) := by
  simp only [Cond.value, Term.eval] at h
  cases ht : t.eval args Z none [] Z with
  | none => simp [ht] at h
  | some x => cases x <;> simp [ht] at h ⊢; exact h
theorem own_fld {v : Value} (ev : t.eval args Z none [] Z = some (.ref a)) (h : (Term.field t C n d).eval args Z none [] Z = some v) : Fld Z Z.heap a C n d v := Fld.start ((fld_at ev).symm.trans h)
theorem own_eqR {b : Addr} (ha : t.eval args Z none [] Z = some (.ref b)) (h : (Jvm.Cond.eq u t).value args Z none Z [] = some true) : u.eval args Z none [] Z = some (.ref b) := by
  cases hu : u.eval args Z none [] Z with
  | none => simp [Cond.value, hu] at h
  | some x => cases x <;> simp [Cond.value, hu, ha] at h ⊢; exact h
theorem own_lenOf {cl : Cell} {ty : FieldType} {k : Int32} (ev : t.eval args Z none [] Z = some (.ref a)) (A : Arr Z Z.heap a cl ty) (h : (Term.length t).eval args Z none [] Z = some (.int k)) : cl.slots.size < 2 ^ 31 ∧ cl.slots.size.toInt32 = k := by
  have q := A.fin (Vm.Alike.refl _)
  by_cases hl : cl.slots.size < 2 ^ 31
  · rw [len_f ev q hl] at h
    exact ⟨hl, by cases h; rfl⟩
  · simp [Term.eval, ev, q, hl] at h
end OwnStart
section OwnArr
variable {p : Program} {l : Launch} {e : Env} {R : Room} {s : State} {m : MethodId} {args : Array Value} {below : List Frame} {meth : Method} {c : Code} {T : State} {locs : List Loc} {cells slots : Nat} {Z : State} {a0 : Array Value} {K : State → Outcome → Prop} {pc pc' : Nat} {Ls : Array Slot} {rest : List Value} {h : Heap}
theorem own_oldge {n0 : Nat} (O : Old Z n0 h) : n0 ≤ h.size := O.1 ▸ O.2.1
theorem own_newR (X : Stand p l e R s m args below meth c T locs cells slots) (hx : p.tables.exec = Jvm.exec) (hZ : Z.Warmed39 s.vm) {own C : String} {index : Nat} (hown : s.vm.findClass own = some m.cls) (w1 : (Jvm.Cond.classLink own index C).before a0 Z = true) (w2 : (Jvm.Cond.arrayOver (.object C)).before a0 Z = true) (eT : T.heap = h)
    (hd : decode c.code pc = .ok (.anewarray index, 3)) {n : Int32} (hn : ¬ n < 0) (cap : Nat) (hcap : n.toNatClampNeg ≤ cap) (hb : cap * 8 ≤ 536870912) (hc : cells + 1 ≤ R.cells) (hl : slots + cap ≤ R.slots) :
    ∃ T' h' b kA, Stand p l e R s m args below meth c T' locs (cells + 1) (slots + cap) ∧ T'.heap = h' ∧ Ext h h' ∧ b = h.size ∧ Arv Z h' b kA (.object C) n (List.replicate cap .null) .null ∧ Ovr Z kA C ∧ ∀ t, Steps p.tables e below (T'.setTop (mkF m (pc + 3) Ls (.ref b :: rest))) t → Steps p.tables e below (T.setTop (mkF m pc Ls (.int n :: rest))) t := by
  obtain ⟨T', h', kA, X', e', E', A', O', st'⟩ := newR X hx hZ hown w1 w2 eT (g := mkF m pc Ls (.int n :: rest)) rfl hd rfl hn hcap hb hc hl
  exact ⟨T', h', h.size, kA, X', e', E', rfl, (Arv.new A' hn).pad (pad_rep [] _ cap), O', st'⟩
theorem own_stR (X : Stand p l e R s m args below meth c T locs cells slots) (hx : p.tables.exec = Jvm.exec) (hZ : Z.Warmed39 s.vm) (eT : T.heap = h) {b y : Addr} {kA : ClassId} {C : String} {n j : Int32} {vs vs' : List Value} (V : Arv Z h b kA (.object C) n vs .null) (O : Ovr Z kA C) (I : Ins Z h y C true) (hj : ¬ j < 0 ∧ j < n) (i : Nat) (hi : j.toNatClampNeg = i) (hil : i < vs.length) (hvs : vs.set i (.ref y) = vs') {n0 : Nat} (N : Fr n0 locs) (g : n0 ≤ b)
    (hd : decode c.code pc = .ok (.aastore, 1)) :
    ∃ T' h' L', Stand p l e R s m args below meth c T' L' cells slots ∧ Fr n0 L' ∧ T'.heap = h' ∧ Wr h h' b i (.ref y) ∧ Arv Z h' b kA (.object C) n vs' .null ∧ ∀ t, Steps p.tables e below (T'.setTop (mkF m (pc + 1) Ls rest)) t → Steps p.tables e below (T.setTop (mkF m pc Ls (.ref y :: .int j :: .ref b :: rest))) t := by
  obtain ⟨cl, A, q, S, Nn, H, G⟩ := V
  subst hvs
  obtain ⟨T', h', X', e', W', st'⟩ := stR X hx hZ eT A (j := j) (inb_of S hj) rfl (Sto.ofV A q O I) (g := mkF m pc Ls (.ref y :: .int j :: .ref b :: rest)) rfl rfl hd
  refine ⟨T', h', _, X', Fr.snoc X' N g, e', hi ▸ W', Arv.set A q S Nn H G rfl W' i hi hil, st'⟩
theorem own_ldR (X : Stand p l e R s m args below meth c T locs cells slots) (hx : p.tables.exec = Jvm.exec) (hZ : Z.Warmed39 s.vm) (eT : T.heap = h) {b : Addr} {kA : ClassId} {ty : FieldType} {n j : Int32} {vs : List Value} {dv v : Value} (V : Arv Z h b kA ty n vs dv) (hty : ty.isReference = true) (hj : ¬ j < 0 ∧ j < n) (hv : vs.getD j.toNatClampNeg dv = v) (hd : decode c.code pc = .ok (.aaload, 1)) :
    ∀ t, Steps p.tables e below (T.setTop (mkF m (pc + 1) Ls (v :: rest))) t → Steps p.tables e below (T.setTop (mkF m pc Ls (.int j :: .ref b :: rest))) t := by
  obtain ⟨cl, A, q, S, Nn, H, G⟩ := V
  intro t k
  exact X.aaload hx (j := j) (v := v) (by rw [eT]; exact A.1) (State.isArrayOf_alike hZ.alike A.2.1) hty A.2.2 (inb_of S hj) (H.at (inb_of S hj) hv) (g := mkF m pc Ls (.int j :: .ref b :: rest)) rfl rfl hd t k
theorem own_len (X : Stand p l e R s m args below meth c T locs cells slots) (hx : p.tables.exec = Jvm.exec) (hZ : Z.Warmed39 s.vm) (eT : T.heap = h) {b : Addr} {kA : ClassId} {ty : FieldType} {n : Int32} {vs : List Value} {dv : Value} (V : Arv Z h b kA ty n vs dv) (hd : decode c.code pc = .ok (.arraylength, 1)) :
    ∀ t, Steps p.tables e below (T.setTop (mkF m (pc + 1) Ls (.int n :: rest))) t → Steps p.tables e below (T.setTop (mkF m pc Ls (.ref b :: rest))) t := by
  obtain ⟨cl, A, q, S, Nn, H, G⟩ := V
  intro t k
  refine X.arraylength hx (by rw [eT]; exact A.1) (State.isArrayOf_alike hZ.alike A.2.1) (g := mkF m pc Ls (.ref b :: rest)) rfl rfl hd t ?_
  rw [len_of S Nn]
  exact k
end OwnArr
theorem own_maskInt (x : Int32) : 0 ≤ (x &&& (2147483647 : Int32)).toInt := by
  have h : (x &&& (2147483647 : Int32)).toBitVec.msb = false := by
    show (x.toBitVec &&& 2147483647#32).msb = false
    rw [BitVec.msb_and]
    have : (2147483647#32).msb = false := by decide
    rw [this, Bool.and_false]
  have h2 : (x &&& (2147483647 : Int32)).toInt = (x &&& (2147483647 : Int32)).toBitVec.toInt := rfl
  rw [h2, BitVec.toInt_eq_toNat_of_msb h]
  omega
theorem own_rem (x n : Int32) (hn : 0 < n.toInt) : ¬ (x &&& (2147483647 : Int32)) % n < 0 ∧ (x &&& (2147483647 : Int32)) % n < n := by
  have h0 := own_maskInt x
  have e0 : (0 : Int32).toInt = 0 := rfl
  rw [Int32.lt_iff_toInt_lt, Int32.lt_iff_toInt_lt, Int32.toInt_mod, e0]
  have h1 := Int.tmod_nonneg n.toInt h0
  have h2 := Int.tmod_lt_of_pos (x &&& (2147483647 : Int32)).toInt hn
  omega
theorem own_c18 (i : Int32) (h : ¬ i < 0) (h2 : i < 18) : i = 0 ∨ i = 1 ∨ i = 2 ∨ i = 3 ∨ i = 4 ∨ i = 5 ∨ i = 6 ∨ i = 7 ∨ i = 8 ∨ i = 9 ∨ i = 10 ∨ i = 11 ∨ i = 12 ∨ i = 13 ∨ i = 14 ∨ i = 15 ∨ i = 16 ∨ i = 17 := by
  have e0 : (0 : Int32).toInt = 0 := rfl
  have e1 : (18 : Int32).toInt = 18 := rfl
  rw [Int32.lt_iff_toInt_lt] at h h2
  have h3 : i.toInt = 0 ∨ i.toInt = 1 ∨ i.toInt = 2 ∨ i.toInt = 3 ∨ i.toInt = 4 ∨ i.toInt = 5 ∨ i.toInt = 6 ∨ i.toInt = 7 ∨ i.toInt = 8 ∨ i.toInt = 9 ∨ i.toInt = 10 ∨ i.toInt = 11 ∨ i.toInt = 12 ∨ i.toInt = 13 ∨ i.toInt = 14 ∨ i.toInt = 15 ∨ i.toInt = 16 ∨ i.toInt = 17 := by omega
  rcases h3 with q | q | q | q | q | q | q | q | q | q | q | q | q | q | q | q | q | q
  · exact Or.inl (Int32.toInt_inj.mp q)
  · exact Or.inr (Or.inl (Int32.toInt_inj.mp q))
  · exact Or.inr (Or.inr (Or.inl (Int32.toInt_inj.mp q)))
  · exact Or.inr (Or.inr (Or.inr (Or.inl (Int32.toInt_inj.mp q))))
  · exact Or.inr (Or.inr (Or.inr (Or.inr (Or.inl (Int32.toInt_inj.mp q)))))
  · exact Or.inr (Or.inr (Or.inr (Or.inr (Or.inr (Or.inl (Int32.toInt_inj.mp q))))))
  · exact Or.inr (Or.inr (Or.inr (Or.inr (Or.inr (Or.inr (Or.inl (Int32.toInt_inj.mp q)))))))
  · exact Or.inr (Or.inr (Or.inr (Or.inr (Or.inr (Or.inr (Or.inr (Or.inl (Int32.toInt_inj.mp q))))))))
  · exact Or.inr (Or.inr (Or.inr (Or.inr (Or.inr (Or.inr (Or.inr (Or.inr (Or.inl (Int32.toInt_inj.mp q)))))))))
  · exact Or.inr (Or.inr (Or.inr (Or.inr (Or.inr (Or.inr (Or.inr (Or.inr (Or.inr (Or.inl (Int32.toInt_inj.mp q))))))))))
  · exact Or.inr (Or.inr (Or.inr (Or.inr (Or.inr (Or.inr (Or.inr (Or.inr (Or.inr (Or.inr (Or.inl (Int32.toInt_inj.mp q)))))))))))
  · exact Or.inr (Or.inr (Or.inr (Or.inr (Or.inr (Or.inr (Or.inr (Or.inr (Or.inr (Or.inr (Or.inr (Or.inl (Int32.toInt_inj.mp q))))))))))))
  · exact Or.inr (Or.inr (Or.inr (Or.inr (Or.inr (Or.inr (Or.inr (Or.inr (Or.inr (Or.inr (Or.inr (Or.inr (Or.inl (Int32.toInt_inj.mp q)))))))))))))
  · exact Or.inr (Or.inr (Or.inr (Or.inr (Or.inr (Or.inr (Or.inr (Or.inr (Or.inr (Or.inr (Or.inr (Or.inr (Or.inr (Or.inl (Int32.toInt_inj.mp q))))))))))))))
  · exact Or.inr (Or.inr (Or.inr (Or.inr (Or.inr (Or.inr (Or.inr (Or.inr (Or.inr (Or.inr (Or.inr (Or.inr (Or.inr (Or.inr (Or.inl (Int32.toInt_inj.mp q)))))))))))))))
  · exact Or.inr (Or.inr (Or.inr (Or.inr (Or.inr (Or.inr (Or.inr (Or.inr (Or.inr (Or.inr (Or.inr (Or.inr (Or.inr (Or.inr (Or.inr (Or.inl (Int32.toInt_inj.mp q))))))))))))))))
  · exact Or.inr (Or.inr (Or.inr (Or.inr (Or.inr (Or.inr (Or.inr (Or.inr (Or.inr (Or.inr (Or.inr (Or.inr (Or.inr (Or.inr (Or.inr (Or.inr (Or.inl (Int32.toInt_inj.mp q)))))))))))))))))
  · exact Or.inr (Or.inr (Or.inr (Or.inr (Or.inr (Or.inr (Or.inr (Or.inr (Or.inr (Or.inr (Or.inr (Or.inr (Or.inr (Or.inr (Or.inr (Or.inr (Or.inr (Int32.toInt_inj.mp q)))))))))))))))))
theorem pn_com_example_forking_paths_forkingpaths_model_Formula_Kind : plainName "com/example/forking_paths/forkingpaths/model/Formula$Kind" = true := by first | (simp [plainName, overriddenIn]; done) | decide +kernel
theorem ef_1 (m : MethodId) (x0 : Addr) : entryFrame m #[(.ref x0)] 1 = mkF m 0 #[.val (.ref x0)] [] := by first | (simp [entryFrame, mkF, argsToLocals, Value.category]; done) | rfl
theorem d1_0 : decode prog_72_method_7_code 0 = .ok (.aload_n 0, 1) := by decide +kernel
theorem d1_1 : decode prog_72_method_7_code 1 = .ok (.getfield 77, 3) := by decide +kernel
theorem d1_4 : decode prog_72_method_7_code 4 = .ok (.iconst 2, 1) := by decide +kernel
theorem d1_5 : decode prog_72_method_7_code 5 = .ok (.if_icmp .ne 14, 3) := by decide +kernel
theorem d1_19 : decode prog_72_method_7_code 19 = .ok (.iconst 0, 1) := by decide +kernel
theorem d1_20 : decode prog_72_method_7_code 20 = .ok (.ireturn, 1) := by decide +kernel
theorem d1_8 : decode prog_72_method_7_code 8 = .ok (.aload_n 0, 1) := by decide +kernel
theorem d1_9 : decode prog_72_method_7_code 9 = .ok (.getfield 85, 3) := by decide +kernel
theorem d1_12 : decode prog_72_method_7_code 12 = .ok (.ifnonnull 7, 3) := by decide +kernel
theorem d1_15 : decode prog_72_method_7_code 15 = .ok (.iconst 1, 1) := by decide +kernel
theorem d1_16 : decode prog_72_method_7_code 16 = .ok (.goto 4, 3) := by decide +kernel
theorem pn_com_example_forking_paths_forkingpaths_model_KindIsInfixPinLaw : plainName "com/example/forking_paths/forkingpaths/model/KindIsInfixPinLaw" = true := by first | (simp [plainName, overriddenIn]; done) | decide +kernel
theorem ef_0 (m : MethodId) (x0 : Int32) : entryFrame m #[(.int x0)] maxLocals = mkF m 0 #[.val (.int x0), .unset, .unset, .unset] [] := by first | (simp [entryFrame, mkF, argsToLocals, Value.category, maxLocals]; done) | rfl
theorem pd_0 : parseMethodDescriptor "()Z" = some ⟨[], some .boolean⟩ := by decide +kernel
set_option maxRecDepth 65536 in
set_option maxHeartbeats 40000000 in
theorem rmA (l : Launch) (Z : State) (a0 : Array Value) (hw : ∀ d ∈ tables_1, d.before a0 Z = true) (ws : List Jvm.Cond) (a1 : Addr) (k1 : Int32) (h0 : Heap) (n0 : Nat) (Z0 : n0 ≤ h0.size) (F1 : Fld Z h0 a1 "com/example/forking_paths/forkingpaths/model/Formula$Kind" "arity" "I" (.int k1)) (hk : ¬ k1 = (2 : Int32)) :
    own_Met l Z (⟨"com/example/forking_paths/forkingpaths/model/Formula$Kind", "isInfix", "()Z"⟩ : MethodName) prog_72_method_7_code 1 (some .boolean) ws ({ frames := 0, cells := 0, slots := 0, locals := 0 } : Room) #[(.ref a1)] h0 (fun v h L => v = some (.int 0) ∧ Fr n0 L ∧ h = h0) := by
  refine own_body (by first | exact plainFor_of_name pn_com_example_forking_paths_forkingpaths_model_Formula_Kind | decide +kernel) ?_
  intro p e s m below meth c T0 X0 hx hby hml hret hlk hZ hown hnm e0
  have hown : s.vm.findClass "com/example/forking_paths/forkingpaths/model/Formula$Kind" = some m.cls := hown
  have hnm : meth.name = "isInfix" := hnm
  have N0 := Fr.nil n0
  rw [ef_1 m a1]
  show own_Go p e below _ T0 (mkF m 0 #[.val (.ref a1)] [])
  refine own_go (fun t k => XS.aloadN X0.here hx rfl (hb hby d1_0) rfl rfl k) ?_
  show own_Go p e below _ T0 (mkF m 1 #[.val (.ref a1)] [(.ref a1)])
  obtain ⟨T1, X1, e1, st1⟩ := getF X0 hx hZ hown (host := "") (Or.inl (own_w hw 46 rfl)) Via.refl e0 F1 (g := (mkF m 1 #[.val (.ref a1)] [(.ref a1)])) rfl rfl (hb hby d1_1)
  refine own_go st1 ?_
  show own_Go p e below _ T1 (mkF m 4 #[.val (.ref a1)] [(.int k1)])
  refine own_go (fun t k => XS.iconst X1.here hx rfl (hb hby d1_4) k) ?_
  show own_Go p e below _ T1 (mkF m 5 #[.val (.ref a1)] [(.int (2 : Int32)), (.int k1)])
  refine own_go (fun t k => XS.icmpYes X1.here hx rfl (pc0 := 5) (pc' := 19) rfl (hb hby d1_5) rfl (XT.ii_ne_t hk) (by decide) (by decide) k) ?_
  show own_Go p e below _ T1 (mkF m 19 #[.val (.ref a1)] [])
  refine own_go (fun t k => XS.iconst X1.here hx rfl (hb hby d1_19) k) ?_
  show own_Go p e below _ T1 (mkF m 20 #[.val (.ref a1)] [(.int (0 : Int32))])
  refine own_retZ X1 hx hlk hret (hb hby d1_20) (Or.inl rfl) (by decide) (by decide) ?_
  exact ⟨rfl, N0, e1⟩
set_option maxRecDepth 65536 in
set_option maxHeartbeats 40000000 in
theorem rmB (l : Launch) (Z : State) (a0 : Array Value) (hw : ∀ d ∈ tables_1, d.before a0 Z = true) (ws : List Jvm.Cond) (a1 : Addr)  (h0 : Heap) (n0 : Nat) (Z0 : n0 ≤ h0.size) (F1 : Fld Z h0 a1 "com/example/forking_paths/forkingpaths/model/Formula$Kind" "arity" "I" (.int 2)) (F2 : Fld Z h0 a1 "com/example/forking_paths/forkingpaths/model/Formula$Kind" "quantifier" "Ljava/lang/String;" .null) :
    own_Met l Z (⟨"com/example/forking_paths/forkingpaths/model/Formula$Kind", "isInfix", "()Z"⟩ : MethodName) prog_72_method_7_code 1 (some .boolean) ws ({ frames := 0, cells := 0, slots := 0, locals := 0 } : Room) #[(.ref a1)] h0 (fun v h L => v = some (.int 1) ∧ Fr n0 L ∧ h = h0) := by
  refine own_body (by first | exact plainFor_of_name pn_com_example_forking_paths_forkingpaths_model_Formula_Kind | decide +kernel) ?_
  intro p e s m below meth c T0 X0 hx hby hml hret hlk hZ hown hnm e0
  have hown : s.vm.findClass "com/example/forking_paths/forkingpaths/model/Formula$Kind" = some m.cls := hown
  have hnm : meth.name = "isInfix" := hnm
  have N0 := Fr.nil n0
  rw [ef_1 m a1]
  show own_Go p e below _ T0 (mkF m 0 #[.val (.ref a1)] [])
  refine own_go (fun t k => XS.aloadN X0.here hx rfl (hb hby d1_0) rfl rfl k) ?_
  show own_Go p e below _ T0 (mkF m 1 #[.val (.ref a1)] [(.ref a1)])
  obtain ⟨T1, X1, e1, st1⟩ := getF X0 hx hZ hown (host := "") (Or.inl (own_w hw 46 rfl)) Via.refl e0 F1 (g := (mkF m 1 #[.val (.ref a1)] [(.ref a1)])) rfl rfl (hb hby d1_1)
  refine own_go st1 ?_
  show own_Go p e below _ T1 (mkF m 4 #[.val (.ref a1)] [(.int (2 : Int32))])
  refine own_go (fun t k => XS.iconst X1.here hx rfl (hb hby d1_4) k) ?_
  show own_Go p e below _ T1 (mkF m 5 #[.val (.ref a1)] [(.int (2 : Int32)), (.int (2 : Int32))])
  refine own_go (fun t k => XS.icmpNo X1.here hx rfl (hb hby d1_5) rfl (XT.ii_ne_f (by decide)) k) ?_
  show own_Go p e below _ T1 (mkF m 8 #[.val (.ref a1)] [])
  refine own_go (fun t k => XS.aloadN X1.here hx rfl (hb hby d1_8) rfl rfl k) ?_
  show own_Go p e below _ T1 (mkF m 9 #[.val (.ref a1)] [(.ref a1)])
  obtain ⟨T2, X2, e2, st2⟩ := getF X1 hx hZ hown (host := "") (Or.inl (own_w hw 48 rfl)) Via.refl e1 F2 (g := (mkF m 9 #[.val (.ref a1)] [(.ref a1)])) rfl rfl (hb hby d1_9)
  refine own_go st2 ?_
  show own_Go p e below _ T2 (mkF m 12 #[.val (.ref a1)] [.null])
  refine own_go (fun t k => XS.ifnonnullNo X2.here hx rfl (hb hby d1_12) rfl k) ?_
  show own_Go p e below _ T2 (mkF m 15 #[.val (.ref a1)] [])
  refine own_go (fun t k => XS.iconst X2.here hx rfl (hb hby d1_15) k) ?_
  show own_Go p e below _ T2 (mkF m 16 #[.val (.ref a1)] [(.int (1 : Int32))])
  refine own_go (fun t k => XS.goto X2.here hx rfl (pc0 := 16) (pc' := 20) rfl (hb hby d1_16) (by decide) (by decide) k) ?_
  show own_Go p e below _ T2 (mkF m 20 #[.val (.ref a1)] [(.int (1 : Int32))])
  refine own_retZ X2 hx hlk hret (hb hby d1_20) (Or.inr rfl) (by decide) (by decide) ?_
  exact ⟨rfl, N0, e2⟩
set_option maxRecDepth 65536 in
set_option maxHeartbeats 40000000 in
theorem rmC (l : Launch) (Z : State) (a0 : Array Value) (hw : ∀ d ∈ tables_1, d.before a0 Z = true) (ws : List Jvm.Cond) (a1 : Addr) (b1 : Addr) (h0 : Heap) (n0 : Nat) (Z0 : n0 ≤ h0.size) (F1 : Fld Z h0 a1 "com/example/forking_paths/forkingpaths/model/Formula$Kind" "arity" "I" (.int 2)) (F2 : Fld Z h0 a1 "com/example/forking_paths/forkingpaths/model/Formula$Kind" "quantifier" "Ljava/lang/String;" (.ref b1)) :
    own_Met l Z (⟨"com/example/forking_paths/forkingpaths/model/Formula$Kind", "isInfix", "()Z"⟩ : MethodName) prog_72_method_7_code 1 (some .boolean) ws ({ frames := 0, cells := 0, slots := 0, locals := 0 } : Room) #[(.ref a1)] h0 (fun v h L => v = some (.int 0) ∧ Fr n0 L ∧ h = h0) := by
  refine own_body (by first | exact plainFor_of_name pn_com_example_forking_paths_forkingpaths_model_Formula_Kind | decide +kernel) ?_
  intro p e s m below meth c T0 X0 hx hby hml hret hlk hZ hown hnm e0
  have hown : s.vm.findClass "com/example/forking_paths/forkingpaths/model/Formula$Kind" = some m.cls := hown
  have hnm : meth.name = "isInfix" := hnm
  have N0 := Fr.nil n0
  rw [ef_1 m a1]
  show own_Go p e below _ T0 (mkF m 0 #[.val (.ref a1)] [])
  refine own_go (fun t k => XS.aloadN X0.here hx rfl (hb hby d1_0) rfl rfl k) ?_
  show own_Go p e below _ T0 (mkF m 1 #[.val (.ref a1)] [(.ref a1)])
  obtain ⟨T1, X1, e1, st1⟩ := getF X0 hx hZ hown (host := "") (Or.inl (own_w hw 46 rfl)) Via.refl e0 F1 (g := (mkF m 1 #[.val (.ref a1)] [(.ref a1)])) rfl rfl (hb hby d1_1)
  refine own_go st1 ?_
  show own_Go p e below _ T1 (mkF m 4 #[.val (.ref a1)] [(.int (2 : Int32))])
  refine own_go (fun t k => XS.iconst X1.here hx rfl (hb hby d1_4) k) ?_
  show own_Go p e below _ T1 (mkF m 5 #[.val (.ref a1)] [(.int (2 : Int32)), (.int (2 : Int32))])
  refine own_go (fun t k => XS.icmpNo X1.here hx rfl (hb hby d1_5) rfl (XT.ii_ne_f (by decide)) k) ?_
  show own_Go p e below _ T1 (mkF m 8 #[.val (.ref a1)] [])
  refine own_go (fun t k => XS.aloadN X1.here hx rfl (hb hby d1_8) rfl rfl k) ?_
  show own_Go p e below _ T1 (mkF m 9 #[.val (.ref a1)] [(.ref a1)])
  obtain ⟨T2, X2, e2, st2⟩ := getF X1 hx hZ hown (host := "") (Or.inl (own_w hw 48 rfl)) Via.refl e1 F2 (g := (mkF m 9 #[.val (.ref a1)] [(.ref a1)])) rfl rfl (hb hby d1_9)
  refine own_go st2 ?_
  show own_Go p e below _ T2 (mkF m 12 #[.val (.ref a1)] [(.ref b1)])
  refine own_go (fun t k => XS.ifnonnullYes X2.here hx rfl (pc0 := 12) (pc' := 19) rfl (hb hby d1_12) rfl (by decide) (by decide) k) ?_
  show own_Go p e below _ T2 (mkF m 19 #[.val (.ref a1)] [])
  refine own_go (fun t k => XS.iconst X2.here hx rfl (hb hby d1_19) k) ?_
  show own_Go p e below _ T2 (mkF m 20 #[.val (.ref a1)] [(.int (0 : Int32))])
  refine own_retZ X2 hx hlk hret (hb hby d1_20) (Or.inl rfl) (by decide) (by decide) ?_
  exact ⟨rfl, N0, e2⟩
set_option maxRecDepth 65536 in
set_option maxHeartbeats 40000000 in
theorem rm0 (l : Launch) (Z : State) (a0 : Array Value) (hw : ∀ d ∈ tables_1, d.before a0 Z = true) (ws : List Jvm.Cond) (p1 : Int32) (a_TRUE : Addr) (a_FALSE : Addr) (a_ATOM : Addr) (a_NOT : Addr) (a_EX : Addr) (a_AX : Addr) (a_EF : Addr) (a_AF : Addr) (a_EG : Addr) (a_AG : Addr) (a_AND : Addr) (a_OR : Addr) (a_IFF : Addr) (a_IMPLIES : Addr) (a_EU : Addr) (a_AU : Addr) (a_ER : Addr) (a_AR : Addr) (b_ER_quantifier : Addr) (b_AU_quantifier : Addr) (h0 : Heap) (n0 : Nat) (Z0 : n0 ≤ h0.size) (O0 : Old Z n0 h0) (S_TRUE : Sta Z Z.heap "com/example/forking_paths/forkingpaths/model/Formula$Kind" "TRUE" "Lcom/example/forking_paths/forkingpaths/model/Formula$Kind;" (.ref a_TRUE)) (E_TRUE : Exa Z Z.heap a_TRUE "com/example/forking_paths/forkingpaths/model/Formula$Kind") (S_FALSE : Sta Z Z.heap "com/example/forking_paths/forkingpaths/model/Formula$Kind" "FALSE" "Lcom/example/forking_paths/forkingpaths/model/Formula$Kind;" (.ref a_FALSE)) (E_FALSE : Exa Z Z.heap a_FALSE "com/example/forking_paths/forkingpaths/model/Formula$Kind") (S_ATOM : Sta Z Z.heap "com/example/forking_paths/forkingpaths/model/Formula$Kind" "ATOM" "Lcom/example/forking_paths/forkingpaths/model/Formula$Kind;" (.ref a_ATOM)) (E_ATOM : Exa Z Z.heap a_ATOM "com/example/forking_paths/forkingpaths/model/Formula$Kind") (S_NOT : Sta Z Z.heap "com/example/forking_paths/forkingpaths/model/Formula$Kind" "NOT" "Lcom/example/forking_paths/forkingpaths/model/Formula$Kind;" (.ref a_NOT)) (E_NOT : Exa Z Z.heap a_NOT "com/example/forking_paths/forkingpaths/model/Formula$Kind") (S_EX : Sta Z Z.heap "com/example/forking_paths/forkingpaths/model/Formula$Kind" "EX" "Lcom/example/forking_paths/forkingpaths/model/Formula$Kind;" (.ref a_EX)) (E_EX : Exa Z Z.heap a_EX "com/example/forking_paths/forkingpaths/model/Formula$Kind") (S_AX : Sta Z Z.heap "com/example/forking_paths/forkingpaths/model/Formula$Kind" "AX" "Lcom/example/forking_paths/forkingpaths/model/Formula$Kind;" (.ref a_AX)) (E_AX : Exa Z Z.heap a_AX "com/example/forking_paths/forkingpaths/model/Formula$Kind") (S_EF : Sta Z Z.heap "com/example/forking_paths/forkingpaths/model/Formula$Kind" "EF" "Lcom/example/forking_paths/forkingpaths/model/Formula$Kind;" (.ref a_EF)) (E_EF : Exa Z Z.heap a_EF "com/example/forking_paths/forkingpaths/model/Formula$Kind") (S_AF : Sta Z Z.heap "com/example/forking_paths/forkingpaths/model/Formula$Kind" "AF" "Lcom/example/forking_paths/forkingpaths/model/Formula$Kind;" (.ref a_AF)) (E_AF : Exa Z Z.heap a_AF "com/example/forking_paths/forkingpaths/model/Formula$Kind") (S_EG : Sta Z Z.heap "com/example/forking_paths/forkingpaths/model/Formula$Kind" "EG" "Lcom/example/forking_paths/forkingpaths/model/Formula$Kind;" (.ref a_EG)) (E_EG : Exa Z Z.heap a_EG "com/example/forking_paths/forkingpaths/model/Formula$Kind") (S_AG : Sta Z Z.heap "com/example/forking_paths/forkingpaths/model/Formula$Kind" "AG" "Lcom/example/forking_paths/forkingpaths/model/Formula$Kind;" (.ref a_AG)) (E_AG : Exa Z Z.heap a_AG "com/example/forking_paths/forkingpaths/model/Formula$Kind") (S_AND : Sta Z Z.heap "com/example/forking_paths/forkingpaths/model/Formula$Kind" "AND" "Lcom/example/forking_paths/forkingpaths/model/Formula$Kind;" (.ref a_AND)) (E_AND : Exa Z Z.heap a_AND "com/example/forking_paths/forkingpaths/model/Formula$Kind") (S_OR : Sta Z Z.heap "com/example/forking_paths/forkingpaths/model/Formula$Kind" "OR" "Lcom/example/forking_paths/forkingpaths/model/Formula$Kind;" (.ref a_OR)) (E_OR : Exa Z Z.heap a_OR "com/example/forking_paths/forkingpaths/model/Formula$Kind") (S_IFF : Sta Z Z.heap "com/example/forking_paths/forkingpaths/model/Formula$Kind" "IFF" "Lcom/example/forking_paths/forkingpaths/model/Formula$Kind;" (.ref a_IFF)) (E_IFF : Exa Z Z.heap a_IFF "com/example/forking_paths/forkingpaths/model/Formula$Kind") (S_IMPLIES : Sta Z Z.heap "com/example/forking_paths/forkingpaths/model/Formula$Kind" "IMPLIES" "Lcom/example/forking_paths/forkingpaths/model/Formula$Kind;" (.ref a_IMPLIES)) (E_IMPLIES : Exa Z Z.heap a_IMPLIES "com/example/forking_paths/forkingpaths/model/Formula$Kind") (S_EU : Sta Z Z.heap "com/example/forking_paths/forkingpaths/model/Formula$Kind" "EU" "Lcom/example/forking_paths/forkingpaths/model/Formula$Kind;" (.ref a_EU)) (E_EU : Exa Z Z.heap a_EU "com/example/forking_paths/forkingpaths/model/Formula$Kind") (S_AU : Sta Z Z.heap "com/example/forking_paths/forkingpaths/model/Formula$Kind" "AU" "Lcom/example/forking_paths/forkingpaths/model/Formula$Kind;" (.ref a_AU)) (E_AU : Exa Z Z.heap a_AU "com/example/forking_paths/forkingpaths/model/Formula$Kind") (S_ER : Sta Z Z.heap "com/example/forking_paths/forkingpaths/model/Formula$Kind" "ER" "Lcom/example/forking_paths/forkingpaths/model/Formula$Kind;" (.ref a_ER)) (E_ER : Exa Z Z.heap a_ER "com/example/forking_paths/forkingpaths/model/Formula$Kind") (S_AR : Sta Z Z.heap "com/example/forking_paths/forkingpaths/model/Formula$Kind" "AR" "Lcom/example/forking_paths/forkingpaths/model/Formula$Kind;" (.ref a_AR)) (E_AR : Exa Z Z.heap a_AR "com/example/forking_paths/forkingpaths/model/Formula$Kind") (F_TRUE_arity : Fld Z Z.heap a_TRUE "com/example/forking_paths/forkingpaths/model/Formula$Kind" "arity" "I" (.int (0 : Int32))) (F_NOT_arity : Fld Z Z.heap a_NOT "com/example/forking_paths/forkingpaths/model/Formula$Kind" "arity" "I" (.int (1 : Int32))) (F_ATOM_arity : Fld Z Z.heap a_ATOM "com/example/forking_paths/forkingpaths/model/Formula$Kind" "arity" "I" (.int (0 : Int32))) (F_FALSE_arity : Fld Z Z.heap a_FALSE "com/example/forking_paths/forkingpaths/model/Formula$Kind" "arity" "I" (.int (0 : Int32))) (F_AF_arity : Fld Z Z.heap a_AF "com/example/forking_paths/forkingpaths/model/Formula$Kind" "arity" "I" (.int (1 : Int32))) (F_OR_arity : Fld Z Z.heap a_OR "com/example/forking_paths/forkingpaths/model/Formula$Kind" "arity" "I" (.int (2 : Int32))) (F_OR_quantifier : Fld Z Z.heap a_OR "com/example/forking_paths/forkingpaths/model/Formula$Kind" "quantifier" "Ljava/lang/String;" .null) (F_EX_arity : Fld Z Z.heap a_EX "com/example/forking_paths/forkingpaths/model/Formula$Kind" "arity" "I" (.int (1 : Int32))) (F_EG_arity : Fld Z Z.heap a_EG "com/example/forking_paths/forkingpaths/model/Formula$Kind" "arity" "I" (.int (1 : Int32))) (F_IFF_arity : Fld Z Z.heap a_IFF "com/example/forking_paths/forkingpaths/model/Formula$Kind" "arity" "I" (.int (2 : Int32))) (F_IFF_quantifier : Fld Z Z.heap a_IFF "com/example/forking_paths/forkingpaths/model/Formula$Kind" "quantifier" "Ljava/lang/String;" .null) (F_ER_arity : Fld Z Z.heap a_ER "com/example/forking_paths/forkingpaths/model/Formula$Kind" "arity" "I" (.int (2 : Int32))) (F_ER_quantifier : Fld Z Z.heap a_ER "com/example/forking_paths/forkingpaths/model/Formula$Kind" "quantifier" "Ljava/lang/String;" (.ref b_ER_quantifier)) (F_AU_arity : Fld Z Z.heap a_AU "com/example/forking_paths/forkingpaths/model/Formula$Kind" "arity" "I" (.int (2 : Int32))) (F_AU_quantifier : Fld Z Z.heap a_AU "com/example/forking_paths/forkingpaths/model/Formula$Kind" "quantifier" "Ljava/lang/String;" (.ref b_AU_quantifier)) (F_AND_arity : Fld Z Z.heap a_AND "com/example/forking_paths/forkingpaths/model/Formula$Kind" "arity" "I" (.int (2 : Int32))) (F_AND_quantifier : Fld Z Z.heap a_AND "com/example/forking_paths/forkingpaths/model/Formula$Kind" "quantifier" "Ljava/lang/String;" .null) (F_IMPLIES_arity : Fld Z Z.heap a_IMPLIES "com/example/forking_paths/forkingpaths/model/Formula$Kind" "arity" "I" (.int (2 : Int32))) (F_IMPLIES_quantifier : Fld Z Z.heap a_IMPLIES "com/example/forking_paths/forkingpaths/model/Formula$Kind" "quantifier" "Ljava/lang/String;" .null) (F_EF_arity : Fld Z Z.heap a_EF "com/example/forking_paths/forkingpaths/model/Formula$Kind" "arity" "I" (.int (1 : Int32))) (F_AR_arity : Fld Z Z.heap a_AR "com/example/forking_paths/forkingpaths/model/Formula$Kind" "arity" "I" (.int (2 : Int32))) (F_EU_arity : Fld Z Z.heap a_EU "com/example/forking_paths/forkingpaths/model/Formula$Kind" "arity" "I" (.int (2 : Int32))) (F_AX_arity : Fld Z Z.heap a_AX "com/example/forking_paths/forkingpaths/model/Formula$Kind" "arity" "I" (.int (1 : Int32))) (F_AG_arity : Fld Z Z.heap a_AG "com/example/forking_paths/forkingpaths/model/Formula$Kind" "arity" "I" (.int (1 : Int32))) (F_TRUE_quantifier : Fld Z Z.heap a_TRUE "com/example/forking_paths/forkingpaths/model/Formula$Kind" "quantifier" "Ljava/lang/String;" .null) (F_FALSE_quantifier : Fld Z Z.heap a_FALSE "com/example/forking_paths/forkingpaths/model/Formula$Kind" "quantifier" "Ljava/lang/String;" .null) (F_ATOM_quantifier : Fld Z Z.heap a_ATOM "com/example/forking_paths/forkingpaths/model/Formula$Kind" "quantifier" "Ljava/lang/String;" .null) (F_NOT_quantifier : Fld Z Z.heap a_NOT "com/example/forking_paths/forkingpaths/model/Formula$Kind" "quantifier" "Ljava/lang/String;" .null) (F_EX_quantifier : Fld Z Z.heap a_EX "com/example/forking_paths/forkingpaths/model/Formula$Kind" "quantifier" "Ljava/lang/String;" .null) (F_AX_quantifier : Fld Z Z.heap a_AX "com/example/forking_paths/forkingpaths/model/Formula$Kind" "quantifier" "Ljava/lang/String;" .null) (F_EF_quantifier : Fld Z Z.heap a_EF "com/example/forking_paths/forkingpaths/model/Formula$Kind" "quantifier" "Ljava/lang/String;" .null) (F_AF_quantifier : Fld Z Z.heap a_AF "com/example/forking_paths/forkingpaths/model/Formula$Kind" "quantifier" "Ljava/lang/String;" .null) (F_EG_quantifier : Fld Z Z.heap a_EG "com/example/forking_paths/forkingpaths/model/Formula$Kind" "quantifier" "Ljava/lang/String;" .null) (F_AG_quantifier : Fld Z Z.heap a_AG "com/example/forking_paths/forkingpaths/model/Formula$Kind" "quantifier" "Ljava/lang/String;" .null) (F_AR_quantifier : Fld Z Z.heap a_AR "com/example/forking_paths/forkingpaths/model/Formula$Kind" "quantifier" "Ljava/lang/String;" (.ref b_AU_quantifier)) (F_EU_quantifier : Fld Z Z.heap a_EU "com/example/forking_paths/forkingpaths/model/Formula$Kind" "quantifier" "Ljava/lang/String;" (.ref b_ER_quantifier)) :
    own_Met l Z x code maxLocals ret ws room_1 #[(.int p1)] h0 (fun v h L => v = some (.int 1) ∧ Fr n0 L) := by
  refine own_body (by first | exact plainFor_of_name pn_com_example_forking_paths_forkingpaths_model_KindIsInfixPinLaw | decide +kernel) ?_
  intro p e s m below meth c T0 X0 hx hby hml hret hlk hZ hown hnm e0
  have hown : s.vm.findClass "com/example/forking_paths/forkingpaths/model/KindIsInfixPinLaw" = some m.cls := hown
  have hnm : meth.name = "law" := hnm
  have N0 := Fr.nil n0
  rw [ef_0 m p1]
  show own_Go p e below _ T0 (mkF m 0 #[.val (.int p1), .unset, .unset, .unset] [])
  refine own_go (fun t k => XS.bipush X0.here hx rfl (hb hby at_0) k) ?_
  show own_Go p e below _ T0 (mkF m 2 #[.val (.int p1), .unset, .unset, .unset] [(.int (18 : Int32))])
  obtain ⟨T1, h1, b1, k1, X1, e1, E1, g1, V1, O1, st1⟩ := own_newR X0 hx hZ hown (own_w hw 0 rfl) (own_w hw 1 rfl) e0 (Ls := #[.val (.int p1), .unset, .unset, .unset]) (rest := []) (hb hby at_2) (n := (18 : Int32)) (by decide) 18 (by decide) (by decide) (by decide) (by decide)
  have ge_b1 : n0 ≤ b1 := g1 ▸ own_oldge O0
  have old1 := O0.ext E1
  have V1 : Arv Z h1 b1 k1 (.object "com/example/forking_paths/forkingpaths/model/Formula$Kind") (18 : Int32) [.null, .null, .null, .null, .null, .null, .null, .null, .null, .null, .null, .null, .null, .null, .null, .null, .null, .null] .null := V1
  refine own_go st1 ?_
  show own_Go p e below _ T1 (mkF m 5 #[.val (.int p1), .unset, .unset, .unset] [(.ref b1)])
  refine own_go (fun t k => XS.dup X1.here hx rfl (hb hby at_5) rfl rfl k) ?_
  show own_Go p e below _ T1 (mkF m 6 #[.val (.int p1), .unset, .unset, .unset] [(.ref b1), (.ref b1)])
  refine own_go (fun t k => XS.iconst X1.here hx rfl (hb hby at_6) k) ?_
  show own_Go p e below _ T1 (mkF m 7 #[.val (.int p1), .unset, .unset, .unset] [(.int (0 : Int32)), (.ref b1), (.ref b1)])
  obtain ⟨T2, X2, e2, st2⟩ := getS2 X1 hx hZ hown (host := "") (Or.inl (own_w hw 2 rfl)) Via.refl e1 (S_TRUE.ext old1.2) (g := (mkF m 7 #[.val (.int p1), .unset, .unset, .unset] [(.int (0 : Int32)), (.ref b1), (.ref b1)])) rfl (hb hby at_7)
  refine own_go st2 ?_
  show own_Go p e below _ T2 (mkF m 10 #[.val (.int p1), .unset, .unset, .unset] [(.ref a_TRUE), (.int (0 : Int32)), (.ref b1), (.ref b1)])
  obtain ⟨T3, h3, L3, X3, N3, e3, W3, V3, st3⟩ := own_stR X2 hx hZ e2 (j := (0 : Int32)) (vs' := [(.ref a_TRUE), .null, .null, .null, .null, .null, .null, .null, .null, .null, .null, .null, .null, .null, .null, .null, .null, .null]) V1 O1 (Ins.self (E_TRUE.ext old1.2)) (by decide) 0 rfl (Nat.le_of_ble_eq_true rfl) rfl N0 ge_b1 (Ls := #[.val (.int p1), .unset, .unset, .unset]) (rest := [(.ref b1)]) (hb hby at_10)
  have old3 := old1.wr W3 ge_b1
  refine own_go st3 ?_
  show own_Go p e below _ T3 (mkF m 11 #[.val (.int p1), .unset, .unset, .unset] [(.ref b1)])
  refine own_go (fun t k => XS.dup X3.here hx rfl (hb hby at_11) rfl rfl k) ?_
  show own_Go p e below _ T3 (mkF m 12 #[.val (.int p1), .unset, .unset, .unset] [(.ref b1), (.ref b1)])
  refine own_go (fun t k => XS.iconst X3.here hx rfl (hb hby at_12) k) ?_
  show own_Go p e below _ T3 (mkF m 13 #[.val (.int p1), .unset, .unset, .unset] [(.int (1 : Int32)), (.ref b1), (.ref b1)])
  obtain ⟨T4, X4, e4, st4⟩ := getS2 X3 hx hZ hown (host := "") (Or.inl (own_w hw 6 rfl)) Via.refl e3 (S_FALSE.ext old3.2) (g := (mkF m 13 #[.val (.int p1), .unset, .unset, .unset] [(.int (1 : Int32)), (.ref b1), (.ref b1)])) rfl (hb hby at_13)
  refine own_go st4 ?_
  show own_Go p e below _ T4 (mkF m 16 #[.val (.int p1), .unset, .unset, .unset] [(.ref a_FALSE), (.int (1 : Int32)), (.ref b1), (.ref b1)])
  obtain ⟨T5, h5, L5, X5, N5, e5, W5, V5, st5⟩ := own_stR X4 hx hZ e4 (j := (1 : Int32)) (vs' := [(.ref a_TRUE), (.ref a_FALSE), .null, .null, .null, .null, .null, .null, .null, .null, .null, .null, .null, .null, .null, .null, .null, .null]) V3 O1 (Ins.self (E_FALSE.ext old3.2)) (by decide) 1 rfl (Nat.le_of_ble_eq_true rfl) rfl N3 ge_b1 (Ls := #[.val (.int p1), .unset, .unset, .unset]) (rest := [(.ref b1)]) (hb hby at_16)
  have old5 := old3.wr W5 ge_b1
  refine own_go st5 ?_
  show own_Go p e below _ T5 (mkF m 17 #[.val (.int p1), .unset, .unset, .unset] [(.ref b1)])
  refine own_go (fun t k => XS.dup X5.here hx rfl (hb hby at_17) rfl rfl k) ?_
  show own_Go p e below _ T5 (mkF m 18 #[.val (.int p1), .unset, .unset, .unset] [(.ref b1), (.ref b1)])
  refine own_go (fun t k => XS.iconst X5.here hx rfl (hb hby at_18) k) ?_
  show own_Go p e below _ T5 (mkF m 19 #[.val (.int p1), .unset, .unset, .unset] [(.int (2 : Int32)), (.ref b1), (.ref b1)])
  obtain ⟨T6, X6, e6, st6⟩ := getS2 X5 hx hZ hown (host := "") (Or.inl (own_w hw 8 rfl)) Via.refl e5 (S_ATOM.ext old5.2) (g := (mkF m 19 #[.val (.int p1), .unset, .unset, .unset] [(.int (2 : Int32)), (.ref b1), (.ref b1)])) rfl (hb hby at_19)
  refine own_go st6 ?_
  show own_Go p e below _ T6 (mkF m 22 #[.val (.int p1), .unset, .unset, .unset] [(.ref a_ATOM), (.int (2 : Int32)), (.ref b1), (.ref b1)])
  obtain ⟨T7, h7, L7, X7, N7, e7, W7, V7, st7⟩ := own_stR X6 hx hZ e6 (j := (2 : Int32)) (vs' := [(.ref a_TRUE), (.ref a_FALSE), (.ref a_ATOM), .null, .null, .null, .null, .null, .null, .null, .null, .null, .null, .null, .null, .null, .null, .null]) V5 O1 (Ins.self (E_ATOM.ext old5.2)) (by decide) 2 rfl (Nat.le_of_ble_eq_true rfl) rfl N5 ge_b1 (Ls := #[.val (.int p1), .unset, .unset, .unset]) (rest := [(.ref b1)]) (hb hby at_22)
  have old7 := old5.wr W7 ge_b1
  refine own_go st7 ?_
  show own_Go p e below _ T7 (mkF m 23 #[.val (.int p1), .unset, .unset, .unset] [(.ref b1)])
  refine own_go (fun t k => XS.dup X7.here hx rfl (hb hby at_23) rfl rfl k) ?_
  show own_Go p e below _ T7 (mkF m 24 #[.val (.int p1), .unset, .unset, .unset] [(.ref b1), (.ref b1)])
  refine own_go (fun t k => XS.iconst X7.here hx rfl (hb hby at_24) k) ?_
  show own_Go p e below _ T7 (mkF m 25 #[.val (.int p1), .unset, .unset, .unset] [(.int (3 : Int32)), (.ref b1), (.ref b1)])
  obtain ⟨T8, X8, e8, st8⟩ := getS2 X7 hx hZ hown (host := "") (Or.inl (own_w hw 10 rfl)) Via.refl e7 (S_NOT.ext old7.2) (g := (mkF m 25 #[.val (.int p1), .unset, .unset, .unset] [(.int (3 : Int32)), (.ref b1), (.ref b1)])) rfl (hb hby at_25)
  refine own_go st8 ?_
  show own_Go p e below _ T8 (mkF m 28 #[.val (.int p1), .unset, .unset, .unset] [(.ref a_NOT), (.int (3 : Int32)), (.ref b1), (.ref b1)])
  obtain ⟨T9, h9, L9, X9, N9, e9, W9, V9, st9⟩ := own_stR X8 hx hZ e8 (j := (3 : Int32)) (vs' := [(.ref a_TRUE), (.ref a_FALSE), (.ref a_ATOM), (.ref a_NOT), .null, .null, .null, .null, .null, .null, .null, .null, .null, .null, .null, .null, .null, .null]) V7 O1 (Ins.self (E_NOT.ext old7.2)) (by decide) 3 rfl (Nat.le_of_ble_eq_true rfl) rfl N7 ge_b1 (Ls := #[.val (.int p1), .unset, .unset, .unset]) (rest := [(.ref b1)]) (hb hby at_28)
  have old9 := old7.wr W9 ge_b1
  refine own_go st9 ?_
  show own_Go p e below _ T9 (mkF m 29 #[.val (.int p1), .unset, .unset, .unset] [(.ref b1)])
  refine own_go (fun t k => XS.dup X9.here hx rfl (hb hby at_29) rfl rfl k) ?_
  show own_Go p e below _ T9 (mkF m 30 #[.val (.int p1), .unset, .unset, .unset] [(.ref b1), (.ref b1)])
  refine own_go (fun t k => XS.iconst X9.here hx rfl (hb hby at_30) k) ?_
  show own_Go p e below _ T9 (mkF m 31 #[.val (.int p1), .unset, .unset, .unset] [(.int (4 : Int32)), (.ref b1), (.ref b1)])
  obtain ⟨T10, X10, e10, st10⟩ := getS2 X9 hx hZ hown (host := "") (Or.inl (own_w hw 12 rfl)) Via.refl e9 (S_EX.ext old9.2) (g := (mkF m 31 #[.val (.int p1), .unset, .unset, .unset] [(.int (4 : Int32)), (.ref b1), (.ref b1)])) rfl (hb hby at_31)
  refine own_go st10 ?_
  show own_Go p e below _ T10 (mkF m 34 #[.val (.int p1), .unset, .unset, .unset] [(.ref a_EX), (.int (4 : Int32)), (.ref b1), (.ref b1)])
  obtain ⟨T11, h11, L11, X11, N11, e11, W11, V11, st11⟩ := own_stR X10 hx hZ e10 (j := (4 : Int32)) (vs' := [(.ref a_TRUE), (.ref a_FALSE), (.ref a_ATOM), (.ref a_NOT), (.ref a_EX), .null, .null, .null, .null, .null, .null, .null, .null, .null, .null, .null, .null, .null]) V9 O1 (Ins.self (E_EX.ext old9.2)) (by decide) 4 rfl (Nat.le_of_ble_eq_true rfl) rfl N9 ge_b1 (Ls := #[.val (.int p1), .unset, .unset, .unset]) (rest := [(.ref b1)]) (hb hby at_34)
  have old11 := old9.wr W11 ge_b1
  refine own_go st11 ?_
  show own_Go p e below _ T11 (mkF m 35 #[.val (.int p1), .unset, .unset, .unset] [(.ref b1)])
  refine own_go (fun t k => XS.dup X11.here hx rfl (hb hby at_35) rfl rfl k) ?_
  show own_Go p e below _ T11 (mkF m 36 #[.val (.int p1), .unset, .unset, .unset] [(.ref b1), (.ref b1)])
  refine own_go (fun t k => XS.iconst X11.here hx rfl (hb hby at_36) k) ?_
  show own_Go p e below _ T11 (mkF m 37 #[.val (.int p1), .unset, .unset, .unset] [(.int (5 : Int32)), (.ref b1), (.ref b1)])
  obtain ⟨T12, X12, e12, st12⟩ := getS2 X11 hx hZ hown (host := "") (Or.inl (own_w hw 14 rfl)) Via.refl e11 (S_AX.ext old11.2) (g := (mkF m 37 #[.val (.int p1), .unset, .unset, .unset] [(.int (5 : Int32)), (.ref b1), (.ref b1)])) rfl (hb hby at_37)
  refine own_go st12 ?_
  show own_Go p e below _ T12 (mkF m 40 #[.val (.int p1), .unset, .unset, .unset] [(.ref a_AX), (.int (5 : Int32)), (.ref b1), (.ref b1)])
  obtain ⟨T13, h13, L13, X13, N13, e13, W13, V13, st13⟩ := own_stR X12 hx hZ e12 (j := (5 : Int32)) (vs' := [(.ref a_TRUE), (.ref a_FALSE), (.ref a_ATOM), (.ref a_NOT), (.ref a_EX), (.ref a_AX), .null, .null, .null, .null, .null, .null, .null, .null, .null, .null, .null, .null]) V11 O1 (Ins.self (E_AX.ext old11.2)) (by decide) 5 rfl (Nat.le_of_ble_eq_true rfl) rfl N11 ge_b1 (Ls := #[.val (.int p1), .unset, .unset, .unset]) (rest := [(.ref b1)]) (hb hby at_40)
  have old13 := old11.wr W13 ge_b1
  refine own_go st13 ?_
  show own_Go p e below _ T13 (mkF m 41 #[.val (.int p1), .unset, .unset, .unset] [(.ref b1)])
  refine own_go (fun t k => XS.dup X13.here hx rfl (hb hby at_41) rfl rfl k) ?_
  show own_Go p e below _ T13 (mkF m 42 #[.val (.int p1), .unset, .unset, .unset] [(.ref b1), (.ref b1)])
  refine own_go (fun t k => XS.bipush X13.here hx rfl (hb hby at_42) k) ?_
  show own_Go p e below _ T13 (mkF m 44 #[.val (.int p1), .unset, .unset, .unset] [(.int (6 : Int32)), (.ref b1), (.ref b1)])
  obtain ⟨T14, X14, e14, st14⟩ := getS2 X13 hx hZ hown (host := "") (Or.inl (own_w hw 16 rfl)) Via.refl e13 (S_EF.ext old13.2) (g := (mkF m 44 #[.val (.int p1), .unset, .unset, .unset] [(.int (6 : Int32)), (.ref b1), (.ref b1)])) rfl (hb hby at_44)
  refine own_go st14 ?_
  show own_Go p e below _ T14 (mkF m 47 #[.val (.int p1), .unset, .unset, .unset] [(.ref a_EF), (.int (6 : Int32)), (.ref b1), (.ref b1)])
  obtain ⟨T15, h15, L15, X15, N15, e15, W15, V15, st15⟩ := own_stR X14 hx hZ e14 (j := (6 : Int32)) (vs' := [(.ref a_TRUE), (.ref a_FALSE), (.ref a_ATOM), (.ref a_NOT), (.ref a_EX), (.ref a_AX), (.ref a_EF), .null, .null, .null, .null, .null, .null, .null, .null, .null, .null, .null]) V13 O1 (Ins.self (E_EF.ext old13.2)) (by decide) 6 rfl (Nat.le_of_ble_eq_true rfl) rfl N13 ge_b1 (Ls := #[.val (.int p1), .unset, .unset, .unset]) (rest := [(.ref b1)]) (hb hby at_47)
  have old15 := old13.wr W15 ge_b1
  refine own_go st15 ?_
  show own_Go p e below _ T15 (mkF m 48 #[.val (.int p1), .unset, .unset, .unset] [(.ref b1)])
  refine own_go (fun t k => XS.dup X15.here hx rfl (hb hby at_48) rfl rfl k) ?_
  show own_Go p e below _ T15 (mkF m 49 #[.val (.int p1), .unset, .unset, .unset] [(.ref b1), (.ref b1)])
  refine own_go (fun t k => XS.bipush X15.here hx rfl (hb hby at_49) k) ?_
  show own_Go p e below _ T15 (mkF m 51 #[.val (.int p1), .unset, .unset, .unset] [(.int (7 : Int32)), (.ref b1), (.ref b1)])
  obtain ⟨T16, X16, e16, st16⟩ := getS2 X15 hx hZ hown (host := "") (Or.inl (own_w hw 18 rfl)) Via.refl e15 (S_AF.ext old15.2) (g := (mkF m 51 #[.val (.int p1), .unset, .unset, .unset] [(.int (7 : Int32)), (.ref b1), (.ref b1)])) rfl (hb hby at_51)
  refine own_go st16 ?_
  show own_Go p e below _ T16 (mkF m 54 #[.val (.int p1), .unset, .unset, .unset] [(.ref a_AF), (.int (7 : Int32)), (.ref b1), (.ref b1)])
  obtain ⟨T17, h17, L17, X17, N17, e17, W17, V17, st17⟩ := own_stR X16 hx hZ e16 (j := (7 : Int32)) (vs' := [(.ref a_TRUE), (.ref a_FALSE), (.ref a_ATOM), (.ref a_NOT), (.ref a_EX), (.ref a_AX), (.ref a_EF), (.ref a_AF), .null, .null, .null, .null, .null, .null, .null, .null, .null, .null]) V15 O1 (Ins.self (E_AF.ext old15.2)) (by decide) 7 rfl (Nat.le_of_ble_eq_true rfl) rfl N15 ge_b1 (Ls := #[.val (.int p1), .unset, .unset, .unset]) (rest := [(.ref b1)]) (hb hby at_54)
  have old17 := old15.wr W17 ge_b1
  refine own_go st17 ?_
  show own_Go p e below _ T17 (mkF m 55 #[.val (.int p1), .unset, .unset, .unset] [(.ref b1)])
  refine own_go (fun t k => XS.dup X17.here hx rfl (hb hby at_55) rfl rfl k) ?_
  show own_Go p e below _ T17 (mkF m 56 #[.val (.int p1), .unset, .unset, .unset] [(.ref b1), (.ref b1)])
  refine own_go (fun t k => XS.bipush X17.here hx rfl (hb hby at_56) k) ?_
  show own_Go p e below _ T17 (mkF m 58 #[.val (.int p1), .unset, .unset, .unset] [(.int (8 : Int32)), (.ref b1), (.ref b1)])
  obtain ⟨T18, X18, e18, st18⟩ := getS2 X17 hx hZ hown (host := "") (Or.inl (own_w hw 20 rfl)) Via.refl e17 (S_EG.ext old17.2) (g := (mkF m 58 #[.val (.int p1), .unset, .unset, .unset] [(.int (8 : Int32)), (.ref b1), (.ref b1)])) rfl (hb hby at_58)
  refine own_go st18 ?_
  show own_Go p e below _ T18 (mkF m 61 #[.val (.int p1), .unset, .unset, .unset] [(.ref a_EG), (.int (8 : Int32)), (.ref b1), (.ref b1)])
  obtain ⟨T19, h19, L19, X19, N19, e19, W19, V19, st19⟩ := own_stR X18 hx hZ e18 (j := (8 : Int32)) (vs' := [(.ref a_TRUE), (.ref a_FALSE), (.ref a_ATOM), (.ref a_NOT), (.ref a_EX), (.ref a_AX), (.ref a_EF), (.ref a_AF), (.ref a_EG), .null, .null, .null, .null, .null, .null, .null, .null, .null]) V17 O1 (Ins.self (E_EG.ext old17.2)) (by decide) 8 rfl (Nat.le_of_ble_eq_true rfl) rfl N17 ge_b1 (Ls := #[.val (.int p1), .unset, .unset, .unset]) (rest := [(.ref b1)]) (hb hby at_61)
  have old19 := old17.wr W19 ge_b1
  refine own_go st19 ?_
  show own_Go p e below _ T19 (mkF m 62 #[.val (.int p1), .unset, .unset, .unset] [(.ref b1)])
  refine own_go (fun t k => XS.dup X19.here hx rfl (hb hby at_62) rfl rfl k) ?_
  show own_Go p e below _ T19 (mkF m 63 #[.val (.int p1), .unset, .unset, .unset] [(.ref b1), (.ref b1)])
  refine own_go (fun t k => XS.bipush X19.here hx rfl (hb hby at_63) k) ?_
  show own_Go p e below _ T19 (mkF m 65 #[.val (.int p1), .unset, .unset, .unset] [(.int (9 : Int32)), (.ref b1), (.ref b1)])
  obtain ⟨T20, X20, e20, st20⟩ := getS2 X19 hx hZ hown (host := "") (Or.inl (own_w hw 22 rfl)) Via.refl e19 (S_AG.ext old19.2) (g := (mkF m 65 #[.val (.int p1), .unset, .unset, .unset] [(.int (9 : Int32)), (.ref b1), (.ref b1)])) rfl (hb hby at_65)
  refine own_go st20 ?_
  show own_Go p e below _ T20 (mkF m 68 #[.val (.int p1), .unset, .unset, .unset] [(.ref a_AG), (.int (9 : Int32)), (.ref b1), (.ref b1)])
  obtain ⟨T21, h21, L21, X21, N21, e21, W21, V21, st21⟩ := own_stR X20 hx hZ e20 (j := (9 : Int32)) (vs' := [(.ref a_TRUE), (.ref a_FALSE), (.ref a_ATOM), (.ref a_NOT), (.ref a_EX), (.ref a_AX), (.ref a_EF), (.ref a_AF), (.ref a_EG), (.ref a_AG), .null, .null, .null, .null, .null, .null, .null, .null]) V19 O1 (Ins.self (E_AG.ext old19.2)) (by decide) 9 rfl (Nat.le_of_ble_eq_true rfl) rfl N19 ge_b1 (Ls := #[.val (.int p1), .unset, .unset, .unset]) (rest := [(.ref b1)]) (hb hby at_68)
  have old21 := old19.wr W21 ge_b1
  refine own_go st21 ?_
  show own_Go p e below _ T21 (mkF m 69 #[.val (.int p1), .unset, .unset, .unset] [(.ref b1)])
  refine own_go (fun t k => XS.dup X21.here hx rfl (hb hby at_69) rfl rfl k) ?_
  show own_Go p e below _ T21 (mkF m 70 #[.val (.int p1), .unset, .unset, .unset] [(.ref b1), (.ref b1)])
  refine own_go (fun t k => XS.bipush X21.here hx rfl (hb hby at_70) k) ?_
  show own_Go p e below _ T21 (mkF m 72 #[.val (.int p1), .unset, .unset, .unset] [(.int (10 : Int32)), (.ref b1), (.ref b1)])
  obtain ⟨T22, X22, e22, st22⟩ := getS2 X21 hx hZ hown (host := "") (Or.inl (own_w hw 24 rfl)) Via.refl e21 (S_AND.ext old21.2) (g := (mkF m 72 #[.val (.int p1), .unset, .unset, .unset] [(.int (10 : Int32)), (.ref b1), (.ref b1)])) rfl (hb hby at_72)
  refine own_go st22 ?_
  show own_Go p e below _ T22 (mkF m 75 #[.val (.int p1), .unset, .unset, .unset] [(.ref a_AND), (.int (10 : Int32)), (.ref b1), (.ref b1)])
  obtain ⟨T23, h23, L23, X23, N23, e23, W23, V23, st23⟩ := own_stR X22 hx hZ e22 (j := (10 : Int32)) (vs' := [(.ref a_TRUE), (.ref a_FALSE), (.ref a_ATOM), (.ref a_NOT), (.ref a_EX), (.ref a_AX), (.ref a_EF), (.ref a_AF), (.ref a_EG), (.ref a_AG), (.ref a_AND), .null, .null, .null, .null, .null, .null, .null]) V21 O1 (Ins.self (E_AND.ext old21.2)) (by decide) 10 rfl (Nat.le_of_ble_eq_true rfl) rfl N21 ge_b1 (Ls := #[.val (.int p1), .unset, .unset, .unset]) (rest := [(.ref b1)]) (hb hby at_75)
  have old23 := old21.wr W23 ge_b1
  refine own_go st23 ?_
  show own_Go p e below _ T23 (mkF m 76 #[.val (.int p1), .unset, .unset, .unset] [(.ref b1)])
  refine own_go (fun t k => XS.dup X23.here hx rfl (hb hby at_76) rfl rfl k) ?_
  show own_Go p e below _ T23 (mkF m 77 #[.val (.int p1), .unset, .unset, .unset] [(.ref b1), (.ref b1)])
  refine own_go (fun t k => XS.bipush X23.here hx rfl (hb hby at_77) k) ?_
  show own_Go p e below _ T23 (mkF m 79 #[.val (.int p1), .unset, .unset, .unset] [(.int (11 : Int32)), (.ref b1), (.ref b1)])
  obtain ⟨T24, X24, e24, st24⟩ := getS2 X23 hx hZ hown (host := "") (Or.inl (own_w hw 26 rfl)) Via.refl e23 (S_OR.ext old23.2) (g := (mkF m 79 #[.val (.int p1), .unset, .unset, .unset] [(.int (11 : Int32)), (.ref b1), (.ref b1)])) rfl (hb hby at_79)
  refine own_go st24 ?_
  show own_Go p e below _ T24 (mkF m 82 #[.val (.int p1), .unset, .unset, .unset] [(.ref a_OR), (.int (11 : Int32)), (.ref b1), (.ref b1)])
  obtain ⟨T25, h25, L25, X25, N25, e25, W25, V25, st25⟩ := own_stR X24 hx hZ e24 (j := (11 : Int32)) (vs' := [(.ref a_TRUE), (.ref a_FALSE), (.ref a_ATOM), (.ref a_NOT), (.ref a_EX), (.ref a_AX), (.ref a_EF), (.ref a_AF), (.ref a_EG), (.ref a_AG), (.ref a_AND), (.ref a_OR), .null, .null, .null, .null, .null, .null]) V23 O1 (Ins.self (E_OR.ext old23.2)) (by decide) 11 rfl (Nat.le_of_ble_eq_true rfl) rfl N23 ge_b1 (Ls := #[.val (.int p1), .unset, .unset, .unset]) (rest := [(.ref b1)]) (hb hby at_82)
  have old25 := old23.wr W25 ge_b1
  refine own_go st25 ?_
  show own_Go p e below _ T25 (mkF m 83 #[.val (.int p1), .unset, .unset, .unset] [(.ref b1)])
  refine own_go (fun t k => XS.dup X25.here hx rfl (hb hby at_83) rfl rfl k) ?_
  show own_Go p e below _ T25 (mkF m 84 #[.val (.int p1), .unset, .unset, .unset] [(.ref b1), (.ref b1)])
  refine own_go (fun t k => XS.bipush X25.here hx rfl (hb hby at_84) k) ?_
  show own_Go p e below _ T25 (mkF m 86 #[.val (.int p1), .unset, .unset, .unset] [(.int (12 : Int32)), (.ref b1), (.ref b1)])
  obtain ⟨T26, X26, e26, st26⟩ := getS2 X25 hx hZ hown (host := "") (Or.inl (own_w hw 28 rfl)) Via.refl e25 (S_IFF.ext old25.2) (g := (mkF m 86 #[.val (.int p1), .unset, .unset, .unset] [(.int (12 : Int32)), (.ref b1), (.ref b1)])) rfl (hb hby at_86)
  refine own_go st26 ?_
  show own_Go p e below _ T26 (mkF m 89 #[.val (.int p1), .unset, .unset, .unset] [(.ref a_IFF), (.int (12 : Int32)), (.ref b1), (.ref b1)])
  obtain ⟨T27, h27, L27, X27, N27, e27, W27, V27, st27⟩ := own_stR X26 hx hZ e26 (j := (12 : Int32)) (vs' := [(.ref a_TRUE), (.ref a_FALSE), (.ref a_ATOM), (.ref a_NOT), (.ref a_EX), (.ref a_AX), (.ref a_EF), (.ref a_AF), (.ref a_EG), (.ref a_AG), (.ref a_AND), (.ref a_OR), (.ref a_IFF), .null, .null, .null, .null, .null]) V25 O1 (Ins.self (E_IFF.ext old25.2)) (by decide) 12 rfl (Nat.le_of_ble_eq_true rfl) rfl N25 ge_b1 (Ls := #[.val (.int p1), .unset, .unset, .unset]) (rest := [(.ref b1)]) (hb hby at_89)
  have old27 := old25.wr W27 ge_b1
  refine own_go st27 ?_
  show own_Go p e below _ T27 (mkF m 90 #[.val (.int p1), .unset, .unset, .unset] [(.ref b1)])
  refine own_go (fun t k => XS.dup X27.here hx rfl (hb hby at_90) rfl rfl k) ?_
  show own_Go p e below _ T27 (mkF m 91 #[.val (.int p1), .unset, .unset, .unset] [(.ref b1), (.ref b1)])
  refine own_go (fun t k => XS.bipush X27.here hx rfl (hb hby at_91) k) ?_
  show own_Go p e below _ T27 (mkF m 93 #[.val (.int p1), .unset, .unset, .unset] [(.int (13 : Int32)), (.ref b1), (.ref b1)])
  obtain ⟨T28, X28, e28, st28⟩ := getS2 X27 hx hZ hown (host := "") (Or.inl (own_w hw 30 rfl)) Via.refl e27 (S_IMPLIES.ext old27.2) (g := (mkF m 93 #[.val (.int p1), .unset, .unset, .unset] [(.int (13 : Int32)), (.ref b1), (.ref b1)])) rfl (hb hby at_93)
  refine own_go st28 ?_
  show own_Go p e below _ T28 (mkF m 96 #[.val (.int p1), .unset, .unset, .unset] [(.ref a_IMPLIES), (.int (13 : Int32)), (.ref b1), (.ref b1)])
  obtain ⟨T29, h29, L29, X29, N29, e29, W29, V29, st29⟩ := own_stR X28 hx hZ e28 (j := (13 : Int32)) (vs' := [(.ref a_TRUE), (.ref a_FALSE), (.ref a_ATOM), (.ref a_NOT), (.ref a_EX), (.ref a_AX), (.ref a_EF), (.ref a_AF), (.ref a_EG), (.ref a_AG), (.ref a_AND), (.ref a_OR), (.ref a_IFF), (.ref a_IMPLIES), .null, .null, .null, .null]) V27 O1 (Ins.self (E_IMPLIES.ext old27.2)) (by decide) 13 rfl (Nat.le_of_ble_eq_true rfl) rfl N27 ge_b1 (Ls := #[.val (.int p1), .unset, .unset, .unset]) (rest := [(.ref b1)]) (hb hby at_96)
  have old29 := old27.wr W29 ge_b1
  refine own_go st29 ?_
  show own_Go p e below _ T29 (mkF m 97 #[.val (.int p1), .unset, .unset, .unset] [(.ref b1)])
  refine own_go (fun t k => XS.dup X29.here hx rfl (hb hby at_97) rfl rfl k) ?_
  show own_Go p e below _ T29 (mkF m 98 #[.val (.int p1), .unset, .unset, .unset] [(.ref b1), (.ref b1)])
  refine own_go (fun t k => XS.bipush X29.here hx rfl (hb hby at_98) k) ?_
  show own_Go p e below _ T29 (mkF m 100 #[.val (.int p1), .unset, .unset, .unset] [(.int (14 : Int32)), (.ref b1), (.ref b1)])
  obtain ⟨T30, X30, e30, st30⟩ := getS2 X29 hx hZ hown (host := "") (Or.inl (own_w hw 32 rfl)) Via.refl e29 (S_EU.ext old29.2) (g := (mkF m 100 #[.val (.int p1), .unset, .unset, .unset] [(.int (14 : Int32)), (.ref b1), (.ref b1)])) rfl (hb hby at_100)
  refine own_go st30 ?_
  show own_Go p e below _ T30 (mkF m 103 #[.val (.int p1), .unset, .unset, .unset] [(.ref a_EU), (.int (14 : Int32)), (.ref b1), (.ref b1)])
  obtain ⟨T31, h31, L31, X31, N31, e31, W31, V31, st31⟩ := own_stR X30 hx hZ e30 (j := (14 : Int32)) (vs' := [(.ref a_TRUE), (.ref a_FALSE), (.ref a_ATOM), (.ref a_NOT), (.ref a_EX), (.ref a_AX), (.ref a_EF), (.ref a_AF), (.ref a_EG), (.ref a_AG), (.ref a_AND), (.ref a_OR), (.ref a_IFF), (.ref a_IMPLIES), (.ref a_EU), .null, .null, .null]) V29 O1 (Ins.self (E_EU.ext old29.2)) (by decide) 14 rfl (Nat.le_of_ble_eq_true rfl) rfl N29 ge_b1 (Ls := #[.val (.int p1), .unset, .unset, .unset]) (rest := [(.ref b1)]) (hb hby at_103)
  have old31 := old29.wr W31 ge_b1
  refine own_go st31 ?_
  show own_Go p e below _ T31 (mkF m 104 #[.val (.int p1), .unset, .unset, .unset] [(.ref b1)])
  refine own_go (fun t k => XS.dup X31.here hx rfl (hb hby at_104) rfl rfl k) ?_
  show own_Go p e below _ T31 (mkF m 105 #[.val (.int p1), .unset, .unset, .unset] [(.ref b1), (.ref b1)])
  refine own_go (fun t k => XS.bipush X31.here hx rfl (hb hby at_105) k) ?_
  show own_Go p e below _ T31 (mkF m 107 #[.val (.int p1), .unset, .unset, .unset] [(.int (15 : Int32)), (.ref b1), (.ref b1)])
  obtain ⟨T32, X32, e32, st32⟩ := getS2 X31 hx hZ hown (host := "") (Or.inl (own_w hw 34 rfl)) Via.refl e31 (S_AU.ext old31.2) (g := (mkF m 107 #[.val (.int p1), .unset, .unset, .unset] [(.int (15 : Int32)), (.ref b1), (.ref b1)])) rfl (hb hby at_107)
  refine own_go st32 ?_
  show own_Go p e below _ T32 (mkF m 110 #[.val (.int p1), .unset, .unset, .unset] [(.ref a_AU), (.int (15 : Int32)), (.ref b1), (.ref b1)])
  obtain ⟨T33, h33, L33, X33, N33, e33, W33, V33, st33⟩ := own_stR X32 hx hZ e32 (j := (15 : Int32)) (vs' := [(.ref a_TRUE), (.ref a_FALSE), (.ref a_ATOM), (.ref a_NOT), (.ref a_EX), (.ref a_AX), (.ref a_EF), (.ref a_AF), (.ref a_EG), (.ref a_AG), (.ref a_AND), (.ref a_OR), (.ref a_IFF), (.ref a_IMPLIES), (.ref a_EU), (.ref a_AU), .null, .null]) V31 O1 (Ins.self (E_AU.ext old31.2)) (by decide) 15 rfl (Nat.le_of_ble_eq_true rfl) rfl N31 ge_b1 (Ls := #[.val (.int p1), .unset, .unset, .unset]) (rest := [(.ref b1)]) (hb hby at_110)
  have old33 := old31.wr W33 ge_b1
  refine own_go st33 ?_
  show own_Go p e below _ T33 (mkF m 111 #[.val (.int p1), .unset, .unset, .unset] [(.ref b1)])
  refine own_go (fun t k => XS.dup X33.here hx rfl (hb hby at_111) rfl rfl k) ?_
  show own_Go p e below _ T33 (mkF m 112 #[.val (.int p1), .unset, .unset, .unset] [(.ref b1), (.ref b1)])
  refine own_go (fun t k => XS.bipush X33.here hx rfl (hb hby at_112) k) ?_
  show own_Go p e below _ T33 (mkF m 114 #[.val (.int p1), .unset, .unset, .unset] [(.int (16 : Int32)), (.ref b1), (.ref b1)])
  obtain ⟨T34, X34, e34, st34⟩ := getS2 X33 hx hZ hown (host := "") (Or.inl (own_w hw 36 rfl)) Via.refl e33 (S_ER.ext old33.2) (g := (mkF m 114 #[.val (.int p1), .unset, .unset, .unset] [(.int (16 : Int32)), (.ref b1), (.ref b1)])) rfl (hb hby at_114)
  refine own_go st34 ?_
  show own_Go p e below _ T34 (mkF m 117 #[.val (.int p1), .unset, .unset, .unset] [(.ref a_ER), (.int (16 : Int32)), (.ref b1), (.ref b1)])
  obtain ⟨T35, h35, L35, X35, N35, e35, W35, V35, st35⟩ := own_stR X34 hx hZ e34 (j := (16 : Int32)) (vs' := [(.ref a_TRUE), (.ref a_FALSE), (.ref a_ATOM), (.ref a_NOT), (.ref a_EX), (.ref a_AX), (.ref a_EF), (.ref a_AF), (.ref a_EG), (.ref a_AG), (.ref a_AND), (.ref a_OR), (.ref a_IFF), (.ref a_IMPLIES), (.ref a_EU), (.ref a_AU), (.ref a_ER), .null]) V33 O1 (Ins.self (E_ER.ext old33.2)) (by decide) 16 rfl (Nat.le_of_ble_eq_true rfl) rfl N33 ge_b1 (Ls := #[.val (.int p1), .unset, .unset, .unset]) (rest := [(.ref b1)]) (hb hby at_117)
  have old35 := old33.wr W35 ge_b1
  refine own_go st35 ?_
  show own_Go p e below _ T35 (mkF m 118 #[.val (.int p1), .unset, .unset, .unset] [(.ref b1)])
  refine own_go (fun t k => XS.dup X35.here hx rfl (hb hby at_118) rfl rfl k) ?_
  show own_Go p e below _ T35 (mkF m 119 #[.val (.int p1), .unset, .unset, .unset] [(.ref b1), (.ref b1)])
  refine own_go (fun t k => XS.bipush X35.here hx rfl (hb hby at_119) k) ?_
  show own_Go p e below _ T35 (mkF m 121 #[.val (.int p1), .unset, .unset, .unset] [(.int (17 : Int32)), (.ref b1), (.ref b1)])
  obtain ⟨T36, X36, e36, st36⟩ := getS2 X35 hx hZ hown (host := "") (Or.inl (own_w hw 38 rfl)) Via.refl e35 (S_AR.ext old35.2) (g := (mkF m 121 #[.val (.int p1), .unset, .unset, .unset] [(.int (17 : Int32)), (.ref b1), (.ref b1)])) rfl (hb hby at_121)
  refine own_go st36 ?_
  show own_Go p e below _ T36 (mkF m 124 #[.val (.int p1), .unset, .unset, .unset] [(.ref a_AR), (.int (17 : Int32)), (.ref b1), (.ref b1)])
  obtain ⟨T37, h37, L37, X37, N37, e37, W37, V37, st37⟩ := own_stR X36 hx hZ e36 (j := (17 : Int32)) (vs' := [(.ref a_TRUE), (.ref a_FALSE), (.ref a_ATOM), (.ref a_NOT), (.ref a_EX), (.ref a_AX), (.ref a_EF), (.ref a_AF), (.ref a_EG), (.ref a_AG), (.ref a_AND), (.ref a_OR), (.ref a_IFF), (.ref a_IMPLIES), (.ref a_EU), (.ref a_AU), (.ref a_ER), (.ref a_AR)]) V35 O1 (Ins.self (E_AR.ext old35.2)) (by decide) 17 rfl (Nat.le_of_ble_eq_true rfl) rfl N35 ge_b1 (Ls := #[.val (.int p1), .unset, .unset, .unset]) (rest := [(.ref b1)]) (hb hby at_124)
  have old37 := old35.wr W37 ge_b1
  refine own_go st37 ?_
  show own_Go p e below _ T37 (mkF m 125 #[.val (.int p1), .unset, .unset, .unset] [(.ref b1)])
  refine own_go (fun t k => XS.astoreN X37.here hx rfl (hb hby at_125) rfl rfl (l' := #[.val (.int p1), .val (.ref b1), .unset, .unset]) rfl k) ?_
  show own_Go p e below _ T37 (mkF m 126 #[.val (.int p1), .val (.ref b1), .unset, .unset] [])
  refine own_go (fun t k => XS.iloadN X37.here hx rfl (hb hby at_126) rfl k) ?_
  show own_Go p e below _ T37 (mkF m 127 #[.val (.int p1), .val (.ref b1), .unset, .unset] [(.int p1)])
  refine own_go (fun t k => X37.ldcInt hx hown (mvT hZ (own_w hw 40 rfl)) (g := (mkF m 127 #[.val (.int p1), .val (.ref b1), .unset, .unset] [(.int p1)])) rfl (hb hby at_127) t k) ?_
  show own_Go p e below _ T37 (mkF m 129 #[.val (.int p1), .val (.ref b1), .unset, .unset] [(.int (2147483647 : Int32)), (.int p1)])
  refine own_go (fun t k => XS.iand X37.here hx rfl (hb hby at_129) rfl k) ?_
  show own_Go p e below _ T37 (mkF m 130 #[.val (.int p1), .val (.ref b1), .unset, .unset] [(.int (p1 &&& (2147483647 : Int32)))])
  refine own_go (fun t k => XS.bipush X37.here hx rfl (hb hby at_130) k) ?_
  show own_Go p e below _ T37 (mkF m 132 #[.val (.int p1), .val (.ref b1), .unset, .unset] [(.int (18 : Int32)), (.int (p1 &&& (2147483647 : Int32)))])
  refine own_go (fun t k => iremM X37 hx rfl (hb hby at_132) rfl (by decide) k) ?_
  show own_Go p e below _ T37 (mkF m 133 #[.val (.int p1), .val (.ref b1), .unset, .unset] [(.int ((p1 &&& (2147483647 : Int32)) % (18 : Int32)))])
  have hi := own_rem p1 18 (by decide)
  generalize ((p1 &&& (2147483647 : Int32)) % (18 : Int32)) = i at hi ⊢
  rcases own_c18 i hi.1 hi.2 with rfl | rfl | rfl | rfl | rfl | rfl | rfl | rfl | rfl | rfl | rfl | rfl | rfl | rfl | rfl | rfl | rfl | rfl
  · show own_Go p e below _ T37 (mkF m 133 #[.val (.int p1), .val (.ref b1), .unset, .unset] [(.int (0 : Int32))])
    refine own_go (fun t k => XS.istoreN X37.here hx rfl (hb hby at_133) rfl (l' := #[.val (.int p1), .val (.ref b1), .val (.int (0 : Int32)), .unset]) rfl k) ?_
    show own_Go p e below _ T37 (mkF m 134 #[.val (.int p1), .val (.ref b1), .val (.int (0 : Int32)), .unset] [])
    refine own_go (fun t k => XS.iloadN X37.here hx rfl (hb hby at_134) rfl k) ?_
    show own_Go p e below _ T37 (mkF m 135 #[.val (.int p1), .val (.ref b1), .val (.int (0 : Int32)), .unset] [(.int (0 : Int32))])
    refine own_go (fun t k => XS.bipush X37.here hx rfl (hb hby at_135) k) ?_
    show own_Go p e below _ T37 (mkF m 137 #[.val (.int p1), .val (.ref b1), .val (.int (0 : Int32)), .unset] [(.int (10 : Int32)), (.int (0 : Int32))])
    refine own_go (fun t k => XS.icmpYes X37.here hx rfl (pc0 := 137) (pc' := 150) rfl (hb hby at_137) rfl (XT.ii_lt_t (by decide)) (by decide) (by decide) k) ?_
    show own_Go p e below _ T37 (mkF m 150 #[.val (.int p1), .val (.ref b1), .val (.int (0 : Int32)), .unset] [])
    refine own_go (fun t k => XS.iconst X37.here hx rfl (hb hby at_150) k) ?_
    show own_Go p e below _ T37 (mkF m 151 #[.val (.int p1), .val (.ref b1), .val (.int (0 : Int32)), .unset] [(.int (0 : Int32))])
    refine own_go (fun t k => XS.istoreN X37.here hx rfl (hb hby at_151) rfl (l' := #[.val (.int p1), .val (.ref b1), .val (.int (0 : Int32)), .val (.int (0 : Int32))]) rfl k) ?_
    show own_Go p e below _ T37 (mkF m 152 #[.val (.int p1), .val (.ref b1), .val (.int (0 : Int32)), .val (.int (0 : Int32))] [])
    refine own_go (fun t k => XS.aloadN X37.here hx rfl (hb hby at_152) rfl rfl k) ?_
    show own_Go p e below _ T37 (mkF m 153 #[.val (.int p1), .val (.ref b1), .val (.int (0 : Int32)), .val (.int (0 : Int32))] [(.ref b1)])
    refine own_go (fun t k => XS.iloadN X37.here hx rfl (hb hby at_153) rfl k) ?_
    show own_Go p e below _ T37 (mkF m 154 #[.val (.int p1), .val (.ref b1), .val (.int (0 : Int32)), .val (.int (0 : Int32))] [(.int (0 : Int32)), (.ref b1)])
    refine own_go (own_ldR X37 hx hZ e37 (Ls := #[.val (.int p1), .val (.ref b1), .val (.int (0 : Int32)), .val (.int (0 : Int32))]) (rest := []) V37 rfl (j := (0 : Int32)) (by decide) (v := (.ref a_TRUE)) rfl (hb hby at_154)) ?_
    show own_Go p e below _ T37 (mkF m 155 #[.val (.int p1), .val (.ref b1), .val (.int (0 : Int32)), .val (.int (0 : Int32))] [(.ref a_TRUE)])
    obtain ⟨_, T38, L38, X38, ⟨rfl, N38, e38⟩, st38⟩ := own_callV X37 hx hZ (y := (⟨"com/example/forking_paths/forkingpaths/model/Formula$Kind", "isInfix", "()Z"⟩ : MethodName)) (z := (⟨"com/example/forking_paths/forkingpaths/model/Formula$Kind", "isInfix", "()Z"⟩ : MethodName)) (b := a_TRUE) (argsL := []) (rest := []) (Ls := #[.val (.int p1), .val (.ref b1), .val (.int (0 : Int32)), .val (.int (0 : Int32))]) hown (own_w hw 41 rfl) (own_w hw 42 rfl) (own_w hw 44 rfl) (notFace_of_selects (args := #[]) (mvT hZ (own_w hw 44 rfl))) (own_w hw 43 rfl) (own_w hw 45 rfl) (own_w hw 3 rfl) (by decide) e37 (E_TRUE.ext old37.2) (rmA l Z a0 hw [] a_TRUE (0 : Int32) h37 n0 (own_oldge old37) (F_TRUE_arity.ext old37.2) (by decide)) 0 (by decide) (by decide) (by decide) (by decide) (by rw [hml]; rfl) (lenOf pd_0 rfl) rfl (Nat.le_of_eq rfl) (hb hby at_155)
    have M38 := Fr.app N37 N38
    refine own_go st38 ?_
    show own_Go p e below _ T38 (mkF m 158 #[.val (.int p1), .val (.ref b1), .val (.int (0 : Int32)), .val (.int (0 : Int32))] [(.int (0 : Int32))])
    refine own_go (fun t k => XS.iloadN X38.here hx rfl (hb hby at_158) rfl k) ?_
    show own_Go p e below _ T38 (mkF m 159 #[.val (.int p1), .val (.ref b1), .val (.int (0 : Int32)), .val (.int (0 : Int32))] [(.int (0 : Int32)), (.int (0 : Int32))])
    refine own_go (fun t k => XS.icmpNo X38.here hx rfl (hb hby at_159) rfl (XT.ii_ne_f (by decide)) k) ?_
    show own_Go p e below _ T38 (mkF m 162 #[.val (.int p1), .val (.ref b1), .val (.int (0 : Int32)), .val (.int (0 : Int32))] [])
    refine own_go (fun t k => XS.iconst X38.here hx rfl (hb hby at_162) k) ?_
    show own_Go p e below _ T38 (mkF m 163 #[.val (.int p1), .val (.ref b1), .val (.int (0 : Int32)), .val (.int (0 : Int32))] [(.int (1 : Int32))])
    refine own_go (fun t k => XS.goto X38.here hx rfl (pc0 := 163) (pc' := 167) rfl (hb hby at_163) (by decide) (by decide) k) ?_
    show own_Go p e below _ T38 (mkF m 167 #[.val (.int p1), .val (.ref b1), .val (.int (0 : Int32)), .val (.int (0 : Int32))] [(.int (1 : Int32))])
    refine own_retZ X38 hx hlk hret (hb hby at_167) (Or.inr rfl) (by decide) (by decide) ?_
    exact ⟨rfl, M38⟩
  · show own_Go p e below _ T37 (mkF m 133 #[.val (.int p1), .val (.ref b1), .unset, .unset] [(.int (1 : Int32))])
    refine own_go (fun t k => XS.istoreN X37.here hx rfl (hb hby at_133) rfl (l' := #[.val (.int p1), .val (.ref b1), .val (.int (1 : Int32)), .unset]) rfl k) ?_
    show own_Go p e below _ T37 (mkF m 134 #[.val (.int p1), .val (.ref b1), .val (.int (1 : Int32)), .unset] [])
    refine own_go (fun t k => XS.iloadN X37.here hx rfl (hb hby at_134) rfl k) ?_
    show own_Go p e below _ T37 (mkF m 135 #[.val (.int p1), .val (.ref b1), .val (.int (1 : Int32)), .unset] [(.int (1 : Int32))])
    refine own_go (fun t k => XS.bipush X37.here hx rfl (hb hby at_135) k) ?_
    show own_Go p e below _ T37 (mkF m 137 #[.val (.int p1), .val (.ref b1), .val (.int (1 : Int32)), .unset] [(.int (10 : Int32)), (.int (1 : Int32))])
    refine own_go (fun t k => XS.icmpYes X37.here hx rfl (pc0 := 137) (pc' := 150) rfl (hb hby at_137) rfl (XT.ii_lt_t (by decide)) (by decide) (by decide) k) ?_
    show own_Go p e below _ T37 (mkF m 150 #[.val (.int p1), .val (.ref b1), .val (.int (1 : Int32)), .unset] [])
    refine own_go (fun t k => XS.iconst X37.here hx rfl (hb hby at_150) k) ?_
    show own_Go p e below _ T37 (mkF m 151 #[.val (.int p1), .val (.ref b1), .val (.int (1 : Int32)), .unset] [(.int (0 : Int32))])
    refine own_go (fun t k => XS.istoreN X37.here hx rfl (hb hby at_151) rfl (l' := #[.val (.int p1), .val (.ref b1), .val (.int (1 : Int32)), .val (.int (0 : Int32))]) rfl k) ?_
    show own_Go p e below _ T37 (mkF m 152 #[.val (.int p1), .val (.ref b1), .val (.int (1 : Int32)), .val (.int (0 : Int32))] [])
    refine own_go (fun t k => XS.aloadN X37.here hx rfl (hb hby at_152) rfl rfl k) ?_
    show own_Go p e below _ T37 (mkF m 153 #[.val (.int p1), .val (.ref b1), .val (.int (1 : Int32)), .val (.int (0 : Int32))] [(.ref b1)])
    refine own_go (fun t k => XS.iloadN X37.here hx rfl (hb hby at_153) rfl k) ?_
    show own_Go p e below _ T37 (mkF m 154 #[.val (.int p1), .val (.ref b1), .val (.int (1 : Int32)), .val (.int (0 : Int32))] [(.int (1 : Int32)), (.ref b1)])
    refine own_go (own_ldR X37 hx hZ e37 (Ls := #[.val (.int p1), .val (.ref b1), .val (.int (1 : Int32)), .val (.int (0 : Int32))]) (rest := []) V37 rfl (j := (1 : Int32)) (by decide) (v := (.ref a_FALSE)) rfl (hb hby at_154)) ?_
    show own_Go p e below _ T37 (mkF m 155 #[.val (.int p1), .val (.ref b1), .val (.int (1 : Int32)), .val (.int (0 : Int32))] [(.ref a_FALSE)])
    obtain ⟨_, T39, L39, X39, ⟨rfl, N39, e39⟩, st39⟩ := own_callV X37 hx hZ (y := (⟨"com/example/forking_paths/forkingpaths/model/Formula$Kind", "isInfix", "()Z"⟩ : MethodName)) (z := (⟨"com/example/forking_paths/forkingpaths/model/Formula$Kind", "isInfix", "()Z"⟩ : MethodName)) (b := a_FALSE) (argsL := []) (rest := []) (Ls := #[.val (.int p1), .val (.ref b1), .val (.int (1 : Int32)), .val (.int (0 : Int32))]) hown (own_w hw 41 rfl) (own_w hw 42 rfl) (own_w hw 44 rfl) (notFace_of_selects (args := #[]) (mvT hZ (own_w hw 44 rfl))) (own_w hw 43 rfl) (own_w hw 45 rfl) (own_w hw 3 rfl) (by decide) e37 (E_FALSE.ext old37.2) (rmA l Z a0 hw [] a_FALSE (0 : Int32) h37 n0 (own_oldge old37) (F_FALSE_arity.ext old37.2) (by decide)) 0 (by decide) (by decide) (by decide) (by decide) (by rw [hml]; rfl) (lenOf pd_0 rfl) rfl (Nat.le_of_eq rfl) (hb hby at_155)
    have M39 := Fr.app N37 N39
    refine own_go st39 ?_
    show own_Go p e below _ T39 (mkF m 158 #[.val (.int p1), .val (.ref b1), .val (.int (1 : Int32)), .val (.int (0 : Int32))] [(.int (0 : Int32))])
    refine own_go (fun t k => XS.iloadN X39.here hx rfl (hb hby at_158) rfl k) ?_
    show own_Go p e below _ T39 (mkF m 159 #[.val (.int p1), .val (.ref b1), .val (.int (1 : Int32)), .val (.int (0 : Int32))] [(.int (0 : Int32)), (.int (0 : Int32))])
    refine own_go (fun t k => XS.icmpNo X39.here hx rfl (hb hby at_159) rfl (XT.ii_ne_f (by decide)) k) ?_
    show own_Go p e below _ T39 (mkF m 162 #[.val (.int p1), .val (.ref b1), .val (.int (1 : Int32)), .val (.int (0 : Int32))] [])
    refine own_go (fun t k => XS.iconst X39.here hx rfl (hb hby at_162) k) ?_
    show own_Go p e below _ T39 (mkF m 163 #[.val (.int p1), .val (.ref b1), .val (.int (1 : Int32)), .val (.int (0 : Int32))] [(.int (1 : Int32))])
    refine own_go (fun t k => XS.goto X39.here hx rfl (pc0 := 163) (pc' := 167) rfl (hb hby at_163) (by decide) (by decide) k) ?_
    show own_Go p e below _ T39 (mkF m 167 #[.val (.int p1), .val (.ref b1), .val (.int (1 : Int32)), .val (.int (0 : Int32))] [(.int (1 : Int32))])
    refine own_retZ X39 hx hlk hret (hb hby at_167) (Or.inr rfl) (by decide) (by decide) ?_
    exact ⟨rfl, M39⟩
  · show own_Go p e below _ T37 (mkF m 133 #[.val (.int p1), .val (.ref b1), .unset, .unset] [(.int (2 : Int32))])
    refine own_go (fun t k => XS.istoreN X37.here hx rfl (hb hby at_133) rfl (l' := #[.val (.int p1), .val (.ref b1), .val (.int (2 : Int32)), .unset]) rfl k) ?_
    show own_Go p e below _ T37 (mkF m 134 #[.val (.int p1), .val (.ref b1), .val (.int (2 : Int32)), .unset] [])
    refine own_go (fun t k => XS.iloadN X37.here hx rfl (hb hby at_134) rfl k) ?_
    show own_Go p e below _ T37 (mkF m 135 #[.val (.int p1), .val (.ref b1), .val (.int (2 : Int32)), .unset] [(.int (2 : Int32))])
    refine own_go (fun t k => XS.bipush X37.here hx rfl (hb hby at_135) k) ?_
    show own_Go p e below _ T37 (mkF m 137 #[.val (.int p1), .val (.ref b1), .val (.int (2 : Int32)), .unset] [(.int (10 : Int32)), (.int (2 : Int32))])
    refine own_go (fun t k => XS.icmpYes X37.here hx rfl (pc0 := 137) (pc' := 150) rfl (hb hby at_137) rfl (XT.ii_lt_t (by decide)) (by decide) (by decide) k) ?_
    show own_Go p e below _ T37 (mkF m 150 #[.val (.int p1), .val (.ref b1), .val (.int (2 : Int32)), .unset] [])
    refine own_go (fun t k => XS.iconst X37.here hx rfl (hb hby at_150) k) ?_
    show own_Go p e below _ T37 (mkF m 151 #[.val (.int p1), .val (.ref b1), .val (.int (2 : Int32)), .unset] [(.int (0 : Int32))])
    refine own_go (fun t k => XS.istoreN X37.here hx rfl (hb hby at_151) rfl (l' := #[.val (.int p1), .val (.ref b1), .val (.int (2 : Int32)), .val (.int (0 : Int32))]) rfl k) ?_
    show own_Go p e below _ T37 (mkF m 152 #[.val (.int p1), .val (.ref b1), .val (.int (2 : Int32)), .val (.int (0 : Int32))] [])
    refine own_go (fun t k => XS.aloadN X37.here hx rfl (hb hby at_152) rfl rfl k) ?_
    show own_Go p e below _ T37 (mkF m 153 #[.val (.int p1), .val (.ref b1), .val (.int (2 : Int32)), .val (.int (0 : Int32))] [(.ref b1)])
    refine own_go (fun t k => XS.iloadN X37.here hx rfl (hb hby at_153) rfl k) ?_
    show own_Go p e below _ T37 (mkF m 154 #[.val (.int p1), .val (.ref b1), .val (.int (2 : Int32)), .val (.int (0 : Int32))] [(.int (2 : Int32)), (.ref b1)])
    refine own_go (own_ldR X37 hx hZ e37 (Ls := #[.val (.int p1), .val (.ref b1), .val (.int (2 : Int32)), .val (.int (0 : Int32))]) (rest := []) V37 rfl (j := (2 : Int32)) (by decide) (v := (.ref a_ATOM)) rfl (hb hby at_154)) ?_
    show own_Go p e below _ T37 (mkF m 155 #[.val (.int p1), .val (.ref b1), .val (.int (2 : Int32)), .val (.int (0 : Int32))] [(.ref a_ATOM)])
    obtain ⟨_, T40, L40, X40, ⟨rfl, N40, e40⟩, st40⟩ := own_callV X37 hx hZ (y := (⟨"com/example/forking_paths/forkingpaths/model/Formula$Kind", "isInfix", "()Z"⟩ : MethodName)) (z := (⟨"com/example/forking_paths/forkingpaths/model/Formula$Kind", "isInfix", "()Z"⟩ : MethodName)) (b := a_ATOM) (argsL := []) (rest := []) (Ls := #[.val (.int p1), .val (.ref b1), .val (.int (2 : Int32)), .val (.int (0 : Int32))]) hown (own_w hw 41 rfl) (own_w hw 42 rfl) (own_w hw 44 rfl) (notFace_of_selects (args := #[]) (mvT hZ (own_w hw 44 rfl))) (own_w hw 43 rfl) (own_w hw 45 rfl) (own_w hw 3 rfl) (by decide) e37 (E_ATOM.ext old37.2) (rmA l Z a0 hw [] a_ATOM (0 : Int32) h37 n0 (own_oldge old37) (F_ATOM_arity.ext old37.2) (by decide)) 0 (by decide) (by decide) (by decide) (by decide) (by rw [hml]; rfl) (lenOf pd_0 rfl) rfl (Nat.le_of_eq rfl) (hb hby at_155)
    have M40 := Fr.app N37 N40
    refine own_go st40 ?_
    show own_Go p e below _ T40 (mkF m 158 #[.val (.int p1), .val (.ref b1), .val (.int (2 : Int32)), .val (.int (0 : Int32))] [(.int (0 : Int32))])
    refine own_go (fun t k => XS.iloadN X40.here hx rfl (hb hby at_158) rfl k) ?_
    show own_Go p e below _ T40 (mkF m 159 #[.val (.int p1), .val (.ref b1), .val (.int (2 : Int32)), .val (.int (0 : Int32))] [(.int (0 : Int32)), (.int (0 : Int32))])
    refine own_go (fun t k => XS.icmpNo X40.here hx rfl (hb hby at_159) rfl (XT.ii_ne_f (by decide)) k) ?_
    show own_Go p e below _ T40 (mkF m 162 #[.val (.int p1), .val (.ref b1), .val (.int (2 : Int32)), .val (.int (0 : Int32))] [])
    refine own_go (fun t k => XS.iconst X40.here hx rfl (hb hby at_162) k) ?_
    show own_Go p e below _ T40 (mkF m 163 #[.val (.int p1), .val (.ref b1), .val (.int (2 : Int32)), .val (.int (0 : Int32))] [(.int (1 : Int32))])
    refine own_go (fun t k => XS.goto X40.here hx rfl (pc0 := 163) (pc' := 167) rfl (hb hby at_163) (by decide) (by decide) k) ?_
    show own_Go p e below _ T40 (mkF m 167 #[.val (.int p1), .val (.ref b1), .val (.int (2 : Int32)), .val (.int (0 : Int32))] [(.int (1 : Int32))])
    refine own_retZ X40 hx hlk hret (hb hby at_167) (Or.inr rfl) (by decide) (by decide) ?_
    exact ⟨rfl, M40⟩
  · show own_Go p e below _ T37 (mkF m 133 #[.val (.int p1), .val (.ref b1), .unset, .unset] [(.int (3 : Int32))])
    refine own_go (fun t k => XS.istoreN X37.here hx rfl (hb hby at_133) rfl (l' := #[.val (.int p1), .val (.ref b1), .val (.int (3 : Int32)), .unset]) rfl k) ?_
    show own_Go p e below _ T37 (mkF m 134 #[.val (.int p1), .val (.ref b1), .val (.int (3 : Int32)), .unset] [])
    refine own_go (fun t k => XS.iloadN X37.here hx rfl (hb hby at_134) rfl k) ?_
    show own_Go p e below _ T37 (mkF m 135 #[.val (.int p1), .val (.ref b1), .val (.int (3 : Int32)), .unset] [(.int (3 : Int32))])
    refine own_go (fun t k => XS.bipush X37.here hx rfl (hb hby at_135) k) ?_
    show own_Go p e below _ T37 (mkF m 137 #[.val (.int p1), .val (.ref b1), .val (.int (3 : Int32)), .unset] [(.int (10 : Int32)), (.int (3 : Int32))])
    refine own_go (fun t k => XS.icmpYes X37.here hx rfl (pc0 := 137) (pc' := 150) rfl (hb hby at_137) rfl (XT.ii_lt_t (by decide)) (by decide) (by decide) k) ?_
    show own_Go p e below _ T37 (mkF m 150 #[.val (.int p1), .val (.ref b1), .val (.int (3 : Int32)), .unset] [])
    refine own_go (fun t k => XS.iconst X37.here hx rfl (hb hby at_150) k) ?_
    show own_Go p e below _ T37 (mkF m 151 #[.val (.int p1), .val (.ref b1), .val (.int (3 : Int32)), .unset] [(.int (0 : Int32))])
    refine own_go (fun t k => XS.istoreN X37.here hx rfl (hb hby at_151) rfl (l' := #[.val (.int p1), .val (.ref b1), .val (.int (3 : Int32)), .val (.int (0 : Int32))]) rfl k) ?_
    show own_Go p e below _ T37 (mkF m 152 #[.val (.int p1), .val (.ref b1), .val (.int (3 : Int32)), .val (.int (0 : Int32))] [])
    refine own_go (fun t k => XS.aloadN X37.here hx rfl (hb hby at_152) rfl rfl k) ?_
    show own_Go p e below _ T37 (mkF m 153 #[.val (.int p1), .val (.ref b1), .val (.int (3 : Int32)), .val (.int (0 : Int32))] [(.ref b1)])
    refine own_go (fun t k => XS.iloadN X37.here hx rfl (hb hby at_153) rfl k) ?_
    show own_Go p e below _ T37 (mkF m 154 #[.val (.int p1), .val (.ref b1), .val (.int (3 : Int32)), .val (.int (0 : Int32))] [(.int (3 : Int32)), (.ref b1)])
    refine own_go (own_ldR X37 hx hZ e37 (Ls := #[.val (.int p1), .val (.ref b1), .val (.int (3 : Int32)), .val (.int (0 : Int32))]) (rest := []) V37 rfl (j := (3 : Int32)) (by decide) (v := (.ref a_NOT)) rfl (hb hby at_154)) ?_
    show own_Go p e below _ T37 (mkF m 155 #[.val (.int p1), .val (.ref b1), .val (.int (3 : Int32)), .val (.int (0 : Int32))] [(.ref a_NOT)])
    obtain ⟨_, T41, L41, X41, ⟨rfl, N41, e41⟩, st41⟩ := own_callV X37 hx hZ (y := (⟨"com/example/forking_paths/forkingpaths/model/Formula$Kind", "isInfix", "()Z"⟩ : MethodName)) (z := (⟨"com/example/forking_paths/forkingpaths/model/Formula$Kind", "isInfix", "()Z"⟩ : MethodName)) (b := a_NOT) (argsL := []) (rest := []) (Ls := #[.val (.int p1), .val (.ref b1), .val (.int (3 : Int32)), .val (.int (0 : Int32))]) hown (own_w hw 41 rfl) (own_w hw 42 rfl) (own_w hw 44 rfl) (notFace_of_selects (args := #[]) (mvT hZ (own_w hw 44 rfl))) (own_w hw 43 rfl) (own_w hw 45 rfl) (own_w hw 3 rfl) (by decide) e37 (E_NOT.ext old37.2) (rmA l Z a0 hw [] a_NOT (1 : Int32) h37 n0 (own_oldge old37) (F_NOT_arity.ext old37.2) (by decide)) 0 (by decide) (by decide) (by decide) (by decide) (by rw [hml]; rfl) (lenOf pd_0 rfl) rfl (Nat.le_of_eq rfl) (hb hby at_155)
    have M41 := Fr.app N37 N41
    refine own_go st41 ?_
    show own_Go p e below _ T41 (mkF m 158 #[.val (.int p1), .val (.ref b1), .val (.int (3 : Int32)), .val (.int (0 : Int32))] [(.int (0 : Int32))])
    refine own_go (fun t k => XS.iloadN X41.here hx rfl (hb hby at_158) rfl k) ?_
    show own_Go p e below _ T41 (mkF m 159 #[.val (.int p1), .val (.ref b1), .val (.int (3 : Int32)), .val (.int (0 : Int32))] [(.int (0 : Int32)), (.int (0 : Int32))])
    refine own_go (fun t k => XS.icmpNo X41.here hx rfl (hb hby at_159) rfl (XT.ii_ne_f (by decide)) k) ?_
    show own_Go p e below _ T41 (mkF m 162 #[.val (.int p1), .val (.ref b1), .val (.int (3 : Int32)), .val (.int (0 : Int32))] [])
    refine own_go (fun t k => XS.iconst X41.here hx rfl (hb hby at_162) k) ?_
    show own_Go p e below _ T41 (mkF m 163 #[.val (.int p1), .val (.ref b1), .val (.int (3 : Int32)), .val (.int (0 : Int32))] [(.int (1 : Int32))])
    refine own_go (fun t k => XS.goto X41.here hx rfl (pc0 := 163) (pc' := 167) rfl (hb hby at_163) (by decide) (by decide) k) ?_
    show own_Go p e below _ T41 (mkF m 167 #[.val (.int p1), .val (.ref b1), .val (.int (3 : Int32)), .val (.int (0 : Int32))] [(.int (1 : Int32))])
    refine own_retZ X41 hx hlk hret (hb hby at_167) (Or.inr rfl) (by decide) (by decide) ?_
    exact ⟨rfl, M41⟩
  · show own_Go p e below _ T37 (mkF m 133 #[.val (.int p1), .val (.ref b1), .unset, .unset] [(.int (4 : Int32))])
    refine own_go (fun t k => XS.istoreN X37.here hx rfl (hb hby at_133) rfl (l' := #[.val (.int p1), .val (.ref b1), .val (.int (4 : Int32)), .unset]) rfl k) ?_
    show own_Go p e below _ T37 (mkF m 134 #[.val (.int p1), .val (.ref b1), .val (.int (4 : Int32)), .unset] [])
    refine own_go (fun t k => XS.iloadN X37.here hx rfl (hb hby at_134) rfl k) ?_
    show own_Go p e below _ T37 (mkF m 135 #[.val (.int p1), .val (.ref b1), .val (.int (4 : Int32)), .unset] [(.int (4 : Int32))])
    refine own_go (fun t k => XS.bipush X37.here hx rfl (hb hby at_135) k) ?_
    show own_Go p e below _ T37 (mkF m 137 #[.val (.int p1), .val (.ref b1), .val (.int (4 : Int32)), .unset] [(.int (10 : Int32)), (.int (4 : Int32))])
    refine own_go (fun t k => XS.icmpYes X37.here hx rfl (pc0 := 137) (pc' := 150) rfl (hb hby at_137) rfl (XT.ii_lt_t (by decide)) (by decide) (by decide) k) ?_
    show own_Go p e below _ T37 (mkF m 150 #[.val (.int p1), .val (.ref b1), .val (.int (4 : Int32)), .unset] [])
    refine own_go (fun t k => XS.iconst X37.here hx rfl (hb hby at_150) k) ?_
    show own_Go p e below _ T37 (mkF m 151 #[.val (.int p1), .val (.ref b1), .val (.int (4 : Int32)), .unset] [(.int (0 : Int32))])
    refine own_go (fun t k => XS.istoreN X37.here hx rfl (hb hby at_151) rfl (l' := #[.val (.int p1), .val (.ref b1), .val (.int (4 : Int32)), .val (.int (0 : Int32))]) rfl k) ?_
    show own_Go p e below _ T37 (mkF m 152 #[.val (.int p1), .val (.ref b1), .val (.int (4 : Int32)), .val (.int (0 : Int32))] [])
    refine own_go (fun t k => XS.aloadN X37.here hx rfl (hb hby at_152) rfl rfl k) ?_
    show own_Go p e below _ T37 (mkF m 153 #[.val (.int p1), .val (.ref b1), .val (.int (4 : Int32)), .val (.int (0 : Int32))] [(.ref b1)])
    refine own_go (fun t k => XS.iloadN X37.here hx rfl (hb hby at_153) rfl k) ?_
    show own_Go p e below _ T37 (mkF m 154 #[.val (.int p1), .val (.ref b1), .val (.int (4 : Int32)), .val (.int (0 : Int32))] [(.int (4 : Int32)), (.ref b1)])
    refine own_go (own_ldR X37 hx hZ e37 (Ls := #[.val (.int p1), .val (.ref b1), .val (.int (4 : Int32)), .val (.int (0 : Int32))]) (rest := []) V37 rfl (j := (4 : Int32)) (by decide) (v := (.ref a_EX)) rfl (hb hby at_154)) ?_
    show own_Go p e below _ T37 (mkF m 155 #[.val (.int p1), .val (.ref b1), .val (.int (4 : Int32)), .val (.int (0 : Int32))] [(.ref a_EX)])
    obtain ⟨_, T42, L42, X42, ⟨rfl, N42, e42⟩, st42⟩ := own_callV X37 hx hZ (y := (⟨"com/example/forking_paths/forkingpaths/model/Formula$Kind", "isInfix", "()Z"⟩ : MethodName)) (z := (⟨"com/example/forking_paths/forkingpaths/model/Formula$Kind", "isInfix", "()Z"⟩ : MethodName)) (b := a_EX) (argsL := []) (rest := []) (Ls := #[.val (.int p1), .val (.ref b1), .val (.int (4 : Int32)), .val (.int (0 : Int32))]) hown (own_w hw 41 rfl) (own_w hw 42 rfl) (own_w hw 44 rfl) (notFace_of_selects (args := #[]) (mvT hZ (own_w hw 44 rfl))) (own_w hw 43 rfl) (own_w hw 45 rfl) (own_w hw 3 rfl) (by decide) e37 (E_EX.ext old37.2) (rmA l Z a0 hw [] a_EX (1 : Int32) h37 n0 (own_oldge old37) (F_EX_arity.ext old37.2) (by decide)) 0 (by decide) (by decide) (by decide) (by decide) (by rw [hml]; rfl) (lenOf pd_0 rfl) rfl (Nat.le_of_eq rfl) (hb hby at_155)
    have M42 := Fr.app N37 N42
    refine own_go st42 ?_
    show own_Go p e below _ T42 (mkF m 158 #[.val (.int p1), .val (.ref b1), .val (.int (4 : Int32)), .val (.int (0 : Int32))] [(.int (0 : Int32))])
    refine own_go (fun t k => XS.iloadN X42.here hx rfl (hb hby at_158) rfl k) ?_
    show own_Go p e below _ T42 (mkF m 159 #[.val (.int p1), .val (.ref b1), .val (.int (4 : Int32)), .val (.int (0 : Int32))] [(.int (0 : Int32)), (.int (0 : Int32))])
    refine own_go (fun t k => XS.icmpNo X42.here hx rfl (hb hby at_159) rfl (XT.ii_ne_f (by decide)) k) ?_
    show own_Go p e below _ T42 (mkF m 162 #[.val (.int p1), .val (.ref b1), .val (.int (4 : Int32)), .val (.int (0 : Int32))] [])
    refine own_go (fun t k => XS.iconst X42.here hx rfl (hb hby at_162) k) ?_
    show own_Go p e below _ T42 (mkF m 163 #[.val (.int p1), .val (.ref b1), .val (.int (4 : Int32)), .val (.int (0 : Int32))] [(.int (1 : Int32))])
    refine own_go (fun t k => XS.goto X42.here hx rfl (pc0 := 163) (pc' := 167) rfl (hb hby at_163) (by decide) (by decide) k) ?_
    show own_Go p e below _ T42 (mkF m 167 #[.val (.int p1), .val (.ref b1), .val (.int (4 : Int32)), .val (.int (0 : Int32))] [(.int (1 : Int32))])
    refine own_retZ X42 hx hlk hret (hb hby at_167) (Or.inr rfl) (by decide) (by decide) ?_
    exact ⟨rfl, M42⟩
  · show own_Go p e below _ T37 (mkF m 133 #[.val (.int p1), .val (.ref b1), .unset, .unset] [(.int (5 : Int32))])
    refine own_go (fun t k => XS.istoreN X37.here hx rfl (hb hby at_133) rfl (l' := #[.val (.int p1), .val (.ref b1), .val (.int (5 : Int32)), .unset]) rfl k) ?_
    show own_Go p e below _ T37 (mkF m 134 #[.val (.int p1), .val (.ref b1), .val (.int (5 : Int32)), .unset] [])
    refine own_go (fun t k => XS.iloadN X37.here hx rfl (hb hby at_134) rfl k) ?_
    show own_Go p e below _ T37 (mkF m 135 #[.val (.int p1), .val (.ref b1), .val (.int (5 : Int32)), .unset] [(.int (5 : Int32))])
    refine own_go (fun t k => XS.bipush X37.here hx rfl (hb hby at_135) k) ?_
    show own_Go p e below _ T37 (mkF m 137 #[.val (.int p1), .val (.ref b1), .val (.int (5 : Int32)), .unset] [(.int (10 : Int32)), (.int (5 : Int32))])
    refine own_go (fun t k => XS.icmpYes X37.here hx rfl (pc0 := 137) (pc' := 150) rfl (hb hby at_137) rfl (XT.ii_lt_t (by decide)) (by decide) (by decide) k) ?_
    show own_Go p e below _ T37 (mkF m 150 #[.val (.int p1), .val (.ref b1), .val (.int (5 : Int32)), .unset] [])
    refine own_go (fun t k => XS.iconst X37.here hx rfl (hb hby at_150) k) ?_
    show own_Go p e below _ T37 (mkF m 151 #[.val (.int p1), .val (.ref b1), .val (.int (5 : Int32)), .unset] [(.int (0 : Int32))])
    refine own_go (fun t k => XS.istoreN X37.here hx rfl (hb hby at_151) rfl (l' := #[.val (.int p1), .val (.ref b1), .val (.int (5 : Int32)), .val (.int (0 : Int32))]) rfl k) ?_
    show own_Go p e below _ T37 (mkF m 152 #[.val (.int p1), .val (.ref b1), .val (.int (5 : Int32)), .val (.int (0 : Int32))] [])
    refine own_go (fun t k => XS.aloadN X37.here hx rfl (hb hby at_152) rfl rfl k) ?_
    show own_Go p e below _ T37 (mkF m 153 #[.val (.int p1), .val (.ref b1), .val (.int (5 : Int32)), .val (.int (0 : Int32))] [(.ref b1)])
    refine own_go (fun t k => XS.iloadN X37.here hx rfl (hb hby at_153) rfl k) ?_
    show own_Go p e below _ T37 (mkF m 154 #[.val (.int p1), .val (.ref b1), .val (.int (5 : Int32)), .val (.int (0 : Int32))] [(.int (5 : Int32)), (.ref b1)])
    refine own_go (own_ldR X37 hx hZ e37 (Ls := #[.val (.int p1), .val (.ref b1), .val (.int (5 : Int32)), .val (.int (0 : Int32))]) (rest := []) V37 rfl (j := (5 : Int32)) (by decide) (v := (.ref a_AX)) rfl (hb hby at_154)) ?_
    show own_Go p e below _ T37 (mkF m 155 #[.val (.int p1), .val (.ref b1), .val (.int (5 : Int32)), .val (.int (0 : Int32))] [(.ref a_AX)])
    obtain ⟨_, T43, L43, X43, ⟨rfl, N43, e43⟩, st43⟩ := own_callV X37 hx hZ (y := (⟨"com/example/forking_paths/forkingpaths/model/Formula$Kind", "isInfix", "()Z"⟩ : MethodName)) (z := (⟨"com/example/forking_paths/forkingpaths/model/Formula$Kind", "isInfix", "()Z"⟩ : MethodName)) (b := a_AX) (argsL := []) (rest := []) (Ls := #[.val (.int p1), .val (.ref b1), .val (.int (5 : Int32)), .val (.int (0 : Int32))]) hown (own_w hw 41 rfl) (own_w hw 42 rfl) (own_w hw 44 rfl) (notFace_of_selects (args := #[]) (mvT hZ (own_w hw 44 rfl))) (own_w hw 43 rfl) (own_w hw 45 rfl) (own_w hw 3 rfl) (by decide) e37 (E_AX.ext old37.2) (rmA l Z a0 hw [] a_AX (1 : Int32) h37 n0 (own_oldge old37) (F_AX_arity.ext old37.2) (by decide)) 0 (by decide) (by decide) (by decide) (by decide) (by rw [hml]; rfl) (lenOf pd_0 rfl) rfl (Nat.le_of_eq rfl) (hb hby at_155)
    have M43 := Fr.app N37 N43
    refine own_go st43 ?_
    show own_Go p e below _ T43 (mkF m 158 #[.val (.int p1), .val (.ref b1), .val (.int (5 : Int32)), .val (.int (0 : Int32))] [(.int (0 : Int32))])
    refine own_go (fun t k => XS.iloadN X43.here hx rfl (hb hby at_158) rfl k) ?_
    show own_Go p e below _ T43 (mkF m 159 #[.val (.int p1), .val (.ref b1), .val (.int (5 : Int32)), .val (.int (0 : Int32))] [(.int (0 : Int32)), (.int (0 : Int32))])
    refine own_go (fun t k => XS.icmpNo X43.here hx rfl (hb hby at_159) rfl (XT.ii_ne_f (by decide)) k) ?_
    show own_Go p e below _ T43 (mkF m 162 #[.val (.int p1), .val (.ref b1), .val (.int (5 : Int32)), .val (.int (0 : Int32))] [])
    refine own_go (fun t k => XS.iconst X43.here hx rfl (hb hby at_162) k) ?_
    show own_Go p e below _ T43 (mkF m 163 #[.val (.int p1), .val (.ref b1), .val (.int (5 : Int32)), .val (.int (0 : Int32))] [(.int (1 : Int32))])
    refine own_go (fun t k => XS.goto X43.here hx rfl (pc0 := 163) (pc' := 167) rfl (hb hby at_163) (by decide) (by decide) k) ?_
    show own_Go p e below _ T43 (mkF m 167 #[.val (.int p1), .val (.ref b1), .val (.int (5 : Int32)), .val (.int (0 : Int32))] [(.int (1 : Int32))])
    refine own_retZ X43 hx hlk hret (hb hby at_167) (Or.inr rfl) (by decide) (by decide) ?_
    exact ⟨rfl, M43⟩
  · show own_Go p e below _ T37 (mkF m 133 #[.val (.int p1), .val (.ref b1), .unset, .unset] [(.int (6 : Int32))])
    refine own_go (fun t k => XS.istoreN X37.here hx rfl (hb hby at_133) rfl (l' := #[.val (.int p1), .val (.ref b1), .val (.int (6 : Int32)), .unset]) rfl k) ?_
    show own_Go p e below _ T37 (mkF m 134 #[.val (.int p1), .val (.ref b1), .val (.int (6 : Int32)), .unset] [])
    refine own_go (fun t k => XS.iloadN X37.here hx rfl (hb hby at_134) rfl k) ?_
    show own_Go p e below _ T37 (mkF m 135 #[.val (.int p1), .val (.ref b1), .val (.int (6 : Int32)), .unset] [(.int (6 : Int32))])
    refine own_go (fun t k => XS.bipush X37.here hx rfl (hb hby at_135) k) ?_
    show own_Go p e below _ T37 (mkF m 137 #[.val (.int p1), .val (.ref b1), .val (.int (6 : Int32)), .unset] [(.int (10 : Int32)), (.int (6 : Int32))])
    refine own_go (fun t k => XS.icmpYes X37.here hx rfl (pc0 := 137) (pc' := 150) rfl (hb hby at_137) rfl (XT.ii_lt_t (by decide)) (by decide) (by decide) k) ?_
    show own_Go p e below _ T37 (mkF m 150 #[.val (.int p1), .val (.ref b1), .val (.int (6 : Int32)), .unset] [])
    refine own_go (fun t k => XS.iconst X37.here hx rfl (hb hby at_150) k) ?_
    show own_Go p e below _ T37 (mkF m 151 #[.val (.int p1), .val (.ref b1), .val (.int (6 : Int32)), .unset] [(.int (0 : Int32))])
    refine own_go (fun t k => XS.istoreN X37.here hx rfl (hb hby at_151) rfl (l' := #[.val (.int p1), .val (.ref b1), .val (.int (6 : Int32)), .val (.int (0 : Int32))]) rfl k) ?_
    show own_Go p e below _ T37 (mkF m 152 #[.val (.int p1), .val (.ref b1), .val (.int (6 : Int32)), .val (.int (0 : Int32))] [])
    refine own_go (fun t k => XS.aloadN X37.here hx rfl (hb hby at_152) rfl rfl k) ?_
    show own_Go p e below _ T37 (mkF m 153 #[.val (.int p1), .val (.ref b1), .val (.int (6 : Int32)), .val (.int (0 : Int32))] [(.ref b1)])
    refine own_go (fun t k => XS.iloadN X37.here hx rfl (hb hby at_153) rfl k) ?_
    show own_Go p e below _ T37 (mkF m 154 #[.val (.int p1), .val (.ref b1), .val (.int (6 : Int32)), .val (.int (0 : Int32))] [(.int (6 : Int32)), (.ref b1)])
    refine own_go (own_ldR X37 hx hZ e37 (Ls := #[.val (.int p1), .val (.ref b1), .val (.int (6 : Int32)), .val (.int (0 : Int32))]) (rest := []) V37 rfl (j := (6 : Int32)) (by decide) (v := (.ref a_EF)) rfl (hb hby at_154)) ?_
    show own_Go p e below _ T37 (mkF m 155 #[.val (.int p1), .val (.ref b1), .val (.int (6 : Int32)), .val (.int (0 : Int32))] [(.ref a_EF)])
    obtain ⟨_, T44, L44, X44, ⟨rfl, N44, e44⟩, st44⟩ := own_callV X37 hx hZ (y := (⟨"com/example/forking_paths/forkingpaths/model/Formula$Kind", "isInfix", "()Z"⟩ : MethodName)) (z := (⟨"com/example/forking_paths/forkingpaths/model/Formula$Kind", "isInfix", "()Z"⟩ : MethodName)) (b := a_EF) (argsL := []) (rest := []) (Ls := #[.val (.int p1), .val (.ref b1), .val (.int (6 : Int32)), .val (.int (0 : Int32))]) hown (own_w hw 41 rfl) (own_w hw 42 rfl) (own_w hw 44 rfl) (notFace_of_selects (args := #[]) (mvT hZ (own_w hw 44 rfl))) (own_w hw 43 rfl) (own_w hw 45 rfl) (own_w hw 3 rfl) (by decide) e37 (E_EF.ext old37.2) (rmA l Z a0 hw [] a_EF (1 : Int32) h37 n0 (own_oldge old37) (F_EF_arity.ext old37.2) (by decide)) 0 (by decide) (by decide) (by decide) (by decide) (by rw [hml]; rfl) (lenOf pd_0 rfl) rfl (Nat.le_of_eq rfl) (hb hby at_155)
    have M44 := Fr.app N37 N44
    refine own_go st44 ?_
    show own_Go p e below _ T44 (mkF m 158 #[.val (.int p1), .val (.ref b1), .val (.int (6 : Int32)), .val (.int (0 : Int32))] [(.int (0 : Int32))])
    refine own_go (fun t k => XS.iloadN X44.here hx rfl (hb hby at_158) rfl k) ?_
    show own_Go p e below _ T44 (mkF m 159 #[.val (.int p1), .val (.ref b1), .val (.int (6 : Int32)), .val (.int (0 : Int32))] [(.int (0 : Int32)), (.int (0 : Int32))])
    refine own_go (fun t k => XS.icmpNo X44.here hx rfl (hb hby at_159) rfl (XT.ii_ne_f (by decide)) k) ?_
    show own_Go p e below _ T44 (mkF m 162 #[.val (.int p1), .val (.ref b1), .val (.int (6 : Int32)), .val (.int (0 : Int32))] [])
    refine own_go (fun t k => XS.iconst X44.here hx rfl (hb hby at_162) k) ?_
    show own_Go p e below _ T44 (mkF m 163 #[.val (.int p1), .val (.ref b1), .val (.int (6 : Int32)), .val (.int (0 : Int32))] [(.int (1 : Int32))])
    refine own_go (fun t k => XS.goto X44.here hx rfl (pc0 := 163) (pc' := 167) rfl (hb hby at_163) (by decide) (by decide) k) ?_
    show own_Go p e below _ T44 (mkF m 167 #[.val (.int p1), .val (.ref b1), .val (.int (6 : Int32)), .val (.int (0 : Int32))] [(.int (1 : Int32))])
    refine own_retZ X44 hx hlk hret (hb hby at_167) (Or.inr rfl) (by decide) (by decide) ?_
    exact ⟨rfl, M44⟩
  · show own_Go p e below _ T37 (mkF m 133 #[.val (.int p1), .val (.ref b1), .unset, .unset] [(.int (7 : Int32))])
    refine own_go (fun t k => XS.istoreN X37.here hx rfl (hb hby at_133) rfl (l' := #[.val (.int p1), .val (.ref b1), .val (.int (7 : Int32)), .unset]) rfl k) ?_
    show own_Go p e below _ T37 (mkF m 134 #[.val (.int p1), .val (.ref b1), .val (.int (7 : Int32)), .unset] [])
    refine own_go (fun t k => XS.iloadN X37.here hx rfl (hb hby at_134) rfl k) ?_
    show own_Go p e below _ T37 (mkF m 135 #[.val (.int p1), .val (.ref b1), .val (.int (7 : Int32)), .unset] [(.int (7 : Int32))])
    refine own_go (fun t k => XS.bipush X37.here hx rfl (hb hby at_135) k) ?_
    show own_Go p e below _ T37 (mkF m 137 #[.val (.int p1), .val (.ref b1), .val (.int (7 : Int32)), .unset] [(.int (10 : Int32)), (.int (7 : Int32))])
    refine own_go (fun t k => XS.icmpYes X37.here hx rfl (pc0 := 137) (pc' := 150) rfl (hb hby at_137) rfl (XT.ii_lt_t (by decide)) (by decide) (by decide) k) ?_
    show own_Go p e below _ T37 (mkF m 150 #[.val (.int p1), .val (.ref b1), .val (.int (7 : Int32)), .unset] [])
    refine own_go (fun t k => XS.iconst X37.here hx rfl (hb hby at_150) k) ?_
    show own_Go p e below _ T37 (mkF m 151 #[.val (.int p1), .val (.ref b1), .val (.int (7 : Int32)), .unset] [(.int (0 : Int32))])
    refine own_go (fun t k => XS.istoreN X37.here hx rfl (hb hby at_151) rfl (l' := #[.val (.int p1), .val (.ref b1), .val (.int (7 : Int32)), .val (.int (0 : Int32))]) rfl k) ?_
    show own_Go p e below _ T37 (mkF m 152 #[.val (.int p1), .val (.ref b1), .val (.int (7 : Int32)), .val (.int (0 : Int32))] [])
    refine own_go (fun t k => XS.aloadN X37.here hx rfl (hb hby at_152) rfl rfl k) ?_
    show own_Go p e below _ T37 (mkF m 153 #[.val (.int p1), .val (.ref b1), .val (.int (7 : Int32)), .val (.int (0 : Int32))] [(.ref b1)])
    refine own_go (fun t k => XS.iloadN X37.here hx rfl (hb hby at_153) rfl k) ?_
    show own_Go p e below _ T37 (mkF m 154 #[.val (.int p1), .val (.ref b1), .val (.int (7 : Int32)), .val (.int (0 : Int32))] [(.int (7 : Int32)), (.ref b1)])
    refine own_go (own_ldR X37 hx hZ e37 (Ls := #[.val (.int p1), .val (.ref b1), .val (.int (7 : Int32)), .val (.int (0 : Int32))]) (rest := []) V37 rfl (j := (7 : Int32)) (by decide) (v := (.ref a_AF)) rfl (hb hby at_154)) ?_
    show own_Go p e below _ T37 (mkF m 155 #[.val (.int p1), .val (.ref b1), .val (.int (7 : Int32)), .val (.int (0 : Int32))] [(.ref a_AF)])
    obtain ⟨_, T45, L45, X45, ⟨rfl, N45, e45⟩, st45⟩ := own_callV X37 hx hZ (y := (⟨"com/example/forking_paths/forkingpaths/model/Formula$Kind", "isInfix", "()Z"⟩ : MethodName)) (z := (⟨"com/example/forking_paths/forkingpaths/model/Formula$Kind", "isInfix", "()Z"⟩ : MethodName)) (b := a_AF) (argsL := []) (rest := []) (Ls := #[.val (.int p1), .val (.ref b1), .val (.int (7 : Int32)), .val (.int (0 : Int32))]) hown (own_w hw 41 rfl) (own_w hw 42 rfl) (own_w hw 44 rfl) (notFace_of_selects (args := #[]) (mvT hZ (own_w hw 44 rfl))) (own_w hw 43 rfl) (own_w hw 45 rfl) (own_w hw 3 rfl) (by decide) e37 (E_AF.ext old37.2) (rmA l Z a0 hw [] a_AF (1 : Int32) h37 n0 (own_oldge old37) (F_AF_arity.ext old37.2) (by decide)) 0 (by decide) (by decide) (by decide) (by decide) (by rw [hml]; rfl) (lenOf pd_0 rfl) rfl (Nat.le_of_eq rfl) (hb hby at_155)
    have M45 := Fr.app N37 N45
    refine own_go st45 ?_
    show own_Go p e below _ T45 (mkF m 158 #[.val (.int p1), .val (.ref b1), .val (.int (7 : Int32)), .val (.int (0 : Int32))] [(.int (0 : Int32))])
    refine own_go (fun t k => XS.iloadN X45.here hx rfl (hb hby at_158) rfl k) ?_
    show own_Go p e below _ T45 (mkF m 159 #[.val (.int p1), .val (.ref b1), .val (.int (7 : Int32)), .val (.int (0 : Int32))] [(.int (0 : Int32)), (.int (0 : Int32))])
    refine own_go (fun t k => XS.icmpNo X45.here hx rfl (hb hby at_159) rfl (XT.ii_ne_f (by decide)) k) ?_
    show own_Go p e below _ T45 (mkF m 162 #[.val (.int p1), .val (.ref b1), .val (.int (7 : Int32)), .val (.int (0 : Int32))] [])
    refine own_go (fun t k => XS.iconst X45.here hx rfl (hb hby at_162) k) ?_
    show own_Go p e below _ T45 (mkF m 163 #[.val (.int p1), .val (.ref b1), .val (.int (7 : Int32)), .val (.int (0 : Int32))] [(.int (1 : Int32))])
    refine own_go (fun t k => XS.goto X45.here hx rfl (pc0 := 163) (pc' := 167) rfl (hb hby at_163) (by decide) (by decide) k) ?_
    show own_Go p e below _ T45 (mkF m 167 #[.val (.int p1), .val (.ref b1), .val (.int (7 : Int32)), .val (.int (0 : Int32))] [(.int (1 : Int32))])
    refine own_retZ X45 hx hlk hret (hb hby at_167) (Or.inr rfl) (by decide) (by decide) ?_
    exact ⟨rfl, M45⟩
  · show own_Go p e below _ T37 (mkF m 133 #[.val (.int p1), .val (.ref b1), .unset, .unset] [(.int (8 : Int32))])
    refine own_go (fun t k => XS.istoreN X37.here hx rfl (hb hby at_133) rfl (l' := #[.val (.int p1), .val (.ref b1), .val (.int (8 : Int32)), .unset]) rfl k) ?_
    show own_Go p e below _ T37 (mkF m 134 #[.val (.int p1), .val (.ref b1), .val (.int (8 : Int32)), .unset] [])
    refine own_go (fun t k => XS.iloadN X37.here hx rfl (hb hby at_134) rfl k) ?_
    show own_Go p e below _ T37 (mkF m 135 #[.val (.int p1), .val (.ref b1), .val (.int (8 : Int32)), .unset] [(.int (8 : Int32))])
    refine own_go (fun t k => XS.bipush X37.here hx rfl (hb hby at_135) k) ?_
    show own_Go p e below _ T37 (mkF m 137 #[.val (.int p1), .val (.ref b1), .val (.int (8 : Int32)), .unset] [(.int (10 : Int32)), (.int (8 : Int32))])
    refine own_go (fun t k => XS.icmpYes X37.here hx rfl (pc0 := 137) (pc' := 150) rfl (hb hby at_137) rfl (XT.ii_lt_t (by decide)) (by decide) (by decide) k) ?_
    show own_Go p e below _ T37 (mkF m 150 #[.val (.int p1), .val (.ref b1), .val (.int (8 : Int32)), .unset] [])
    refine own_go (fun t k => XS.iconst X37.here hx rfl (hb hby at_150) k) ?_
    show own_Go p e below _ T37 (mkF m 151 #[.val (.int p1), .val (.ref b1), .val (.int (8 : Int32)), .unset] [(.int (0 : Int32))])
    refine own_go (fun t k => XS.istoreN X37.here hx rfl (hb hby at_151) rfl (l' := #[.val (.int p1), .val (.ref b1), .val (.int (8 : Int32)), .val (.int (0 : Int32))]) rfl k) ?_
    show own_Go p e below _ T37 (mkF m 152 #[.val (.int p1), .val (.ref b1), .val (.int (8 : Int32)), .val (.int (0 : Int32))] [])
    refine own_go (fun t k => XS.aloadN X37.here hx rfl (hb hby at_152) rfl rfl k) ?_
    show own_Go p e below _ T37 (mkF m 153 #[.val (.int p1), .val (.ref b1), .val (.int (8 : Int32)), .val (.int (0 : Int32))] [(.ref b1)])
    refine own_go (fun t k => XS.iloadN X37.here hx rfl (hb hby at_153) rfl k) ?_
    show own_Go p e below _ T37 (mkF m 154 #[.val (.int p1), .val (.ref b1), .val (.int (8 : Int32)), .val (.int (0 : Int32))] [(.int (8 : Int32)), (.ref b1)])
    refine own_go (own_ldR X37 hx hZ e37 (Ls := #[.val (.int p1), .val (.ref b1), .val (.int (8 : Int32)), .val (.int (0 : Int32))]) (rest := []) V37 rfl (j := (8 : Int32)) (by decide) (v := (.ref a_EG)) rfl (hb hby at_154)) ?_
    show own_Go p e below _ T37 (mkF m 155 #[.val (.int p1), .val (.ref b1), .val (.int (8 : Int32)), .val (.int (0 : Int32))] [(.ref a_EG)])
    obtain ⟨_, T46, L46, X46, ⟨rfl, N46, e46⟩, st46⟩ := own_callV X37 hx hZ (y := (⟨"com/example/forking_paths/forkingpaths/model/Formula$Kind", "isInfix", "()Z"⟩ : MethodName)) (z := (⟨"com/example/forking_paths/forkingpaths/model/Formula$Kind", "isInfix", "()Z"⟩ : MethodName)) (b := a_EG) (argsL := []) (rest := []) (Ls := #[.val (.int p1), .val (.ref b1), .val (.int (8 : Int32)), .val (.int (0 : Int32))]) hown (own_w hw 41 rfl) (own_w hw 42 rfl) (own_w hw 44 rfl) (notFace_of_selects (args := #[]) (mvT hZ (own_w hw 44 rfl))) (own_w hw 43 rfl) (own_w hw 45 rfl) (own_w hw 3 rfl) (by decide) e37 (E_EG.ext old37.2) (rmA l Z a0 hw [] a_EG (1 : Int32) h37 n0 (own_oldge old37) (F_EG_arity.ext old37.2) (by decide)) 0 (by decide) (by decide) (by decide) (by decide) (by rw [hml]; rfl) (lenOf pd_0 rfl) rfl (Nat.le_of_eq rfl) (hb hby at_155)
    have M46 := Fr.app N37 N46
    refine own_go st46 ?_
    show own_Go p e below _ T46 (mkF m 158 #[.val (.int p1), .val (.ref b1), .val (.int (8 : Int32)), .val (.int (0 : Int32))] [(.int (0 : Int32))])
    refine own_go (fun t k => XS.iloadN X46.here hx rfl (hb hby at_158) rfl k) ?_
    show own_Go p e below _ T46 (mkF m 159 #[.val (.int p1), .val (.ref b1), .val (.int (8 : Int32)), .val (.int (0 : Int32))] [(.int (0 : Int32)), (.int (0 : Int32))])
    refine own_go (fun t k => XS.icmpNo X46.here hx rfl (hb hby at_159) rfl (XT.ii_ne_f (by decide)) k) ?_
    show own_Go p e below _ T46 (mkF m 162 #[.val (.int p1), .val (.ref b1), .val (.int (8 : Int32)), .val (.int (0 : Int32))] [])
    refine own_go (fun t k => XS.iconst X46.here hx rfl (hb hby at_162) k) ?_
    show own_Go p e below _ T46 (mkF m 163 #[.val (.int p1), .val (.ref b1), .val (.int (8 : Int32)), .val (.int (0 : Int32))] [(.int (1 : Int32))])
    refine own_go (fun t k => XS.goto X46.here hx rfl (pc0 := 163) (pc' := 167) rfl (hb hby at_163) (by decide) (by decide) k) ?_
    show own_Go p e below _ T46 (mkF m 167 #[.val (.int p1), .val (.ref b1), .val (.int (8 : Int32)), .val (.int (0 : Int32))] [(.int (1 : Int32))])
    refine own_retZ X46 hx hlk hret (hb hby at_167) (Or.inr rfl) (by decide) (by decide) ?_
    exact ⟨rfl, M46⟩
  · show own_Go p e below _ T37 (mkF m 133 #[.val (.int p1), .val (.ref b1), .unset, .unset] [(.int (9 : Int32))])
    refine own_go (fun t k => XS.istoreN X37.here hx rfl (hb hby at_133) rfl (l' := #[.val (.int p1), .val (.ref b1), .val (.int (9 : Int32)), .unset]) rfl k) ?_
    show own_Go p e below _ T37 (mkF m 134 #[.val (.int p1), .val (.ref b1), .val (.int (9 : Int32)), .unset] [])
    refine own_go (fun t k => XS.iloadN X37.here hx rfl (hb hby at_134) rfl k) ?_
    show own_Go p e below _ T37 (mkF m 135 #[.val (.int p1), .val (.ref b1), .val (.int (9 : Int32)), .unset] [(.int (9 : Int32))])
    refine own_go (fun t k => XS.bipush X37.here hx rfl (hb hby at_135) k) ?_
    show own_Go p e below _ T37 (mkF m 137 #[.val (.int p1), .val (.ref b1), .val (.int (9 : Int32)), .unset] [(.int (10 : Int32)), (.int (9 : Int32))])
    refine own_go (fun t k => XS.icmpYes X37.here hx rfl (pc0 := 137) (pc' := 150) rfl (hb hby at_137) rfl (XT.ii_lt_t (by decide)) (by decide) (by decide) k) ?_
    show own_Go p e below _ T37 (mkF m 150 #[.val (.int p1), .val (.ref b1), .val (.int (9 : Int32)), .unset] [])
    refine own_go (fun t k => XS.iconst X37.here hx rfl (hb hby at_150) k) ?_
    show own_Go p e below _ T37 (mkF m 151 #[.val (.int p1), .val (.ref b1), .val (.int (9 : Int32)), .unset] [(.int (0 : Int32))])
    refine own_go (fun t k => XS.istoreN X37.here hx rfl (hb hby at_151) rfl (l' := #[.val (.int p1), .val (.ref b1), .val (.int (9 : Int32)), .val (.int (0 : Int32))]) rfl k) ?_
    show own_Go p e below _ T37 (mkF m 152 #[.val (.int p1), .val (.ref b1), .val (.int (9 : Int32)), .val (.int (0 : Int32))] [])
    refine own_go (fun t k => XS.aloadN X37.here hx rfl (hb hby at_152) rfl rfl k) ?_
    show own_Go p e below _ T37 (mkF m 153 #[.val (.int p1), .val (.ref b1), .val (.int (9 : Int32)), .val (.int (0 : Int32))] [(.ref b1)])
    refine own_go (fun t k => XS.iloadN X37.here hx rfl (hb hby at_153) rfl k) ?_
    show own_Go p e below _ T37 (mkF m 154 #[.val (.int p1), .val (.ref b1), .val (.int (9 : Int32)), .val (.int (0 : Int32))] [(.int (9 : Int32)), (.ref b1)])
    refine own_go (own_ldR X37 hx hZ e37 (Ls := #[.val (.int p1), .val (.ref b1), .val (.int (9 : Int32)), .val (.int (0 : Int32))]) (rest := []) V37 rfl (j := (9 : Int32)) (by decide) (v := (.ref a_AG)) rfl (hb hby at_154)) ?_
    show own_Go p e below _ T37 (mkF m 155 #[.val (.int p1), .val (.ref b1), .val (.int (9 : Int32)), .val (.int (0 : Int32))] [(.ref a_AG)])
    obtain ⟨_, T47, L47, X47, ⟨rfl, N47, e47⟩, st47⟩ := own_callV X37 hx hZ (y := (⟨"com/example/forking_paths/forkingpaths/model/Formula$Kind", "isInfix", "()Z"⟩ : MethodName)) (z := (⟨"com/example/forking_paths/forkingpaths/model/Formula$Kind", "isInfix", "()Z"⟩ : MethodName)) (b := a_AG) (argsL := []) (rest := []) (Ls := #[.val (.int p1), .val (.ref b1), .val (.int (9 : Int32)), .val (.int (0 : Int32))]) hown (own_w hw 41 rfl) (own_w hw 42 rfl) (own_w hw 44 rfl) (notFace_of_selects (args := #[]) (mvT hZ (own_w hw 44 rfl))) (own_w hw 43 rfl) (own_w hw 45 rfl) (own_w hw 3 rfl) (by decide) e37 (E_AG.ext old37.2) (rmA l Z a0 hw [] a_AG (1 : Int32) h37 n0 (own_oldge old37) (F_AG_arity.ext old37.2) (by decide)) 0 (by decide) (by decide) (by decide) (by decide) (by rw [hml]; rfl) (lenOf pd_0 rfl) rfl (Nat.le_of_eq rfl) (hb hby at_155)
    have M47 := Fr.app N37 N47
    refine own_go st47 ?_
    show own_Go p e below _ T47 (mkF m 158 #[.val (.int p1), .val (.ref b1), .val (.int (9 : Int32)), .val (.int (0 : Int32))] [(.int (0 : Int32))])
    refine own_go (fun t k => XS.iloadN X47.here hx rfl (hb hby at_158) rfl k) ?_
    show own_Go p e below _ T47 (mkF m 159 #[.val (.int p1), .val (.ref b1), .val (.int (9 : Int32)), .val (.int (0 : Int32))] [(.int (0 : Int32)), (.int (0 : Int32))])
    refine own_go (fun t k => XS.icmpNo X47.here hx rfl (hb hby at_159) rfl (XT.ii_ne_f (by decide)) k) ?_
    show own_Go p e below _ T47 (mkF m 162 #[.val (.int p1), .val (.ref b1), .val (.int (9 : Int32)), .val (.int (0 : Int32))] [])
    refine own_go (fun t k => XS.iconst X47.here hx rfl (hb hby at_162) k) ?_
    show own_Go p e below _ T47 (mkF m 163 #[.val (.int p1), .val (.ref b1), .val (.int (9 : Int32)), .val (.int (0 : Int32))] [(.int (1 : Int32))])
    refine own_go (fun t k => XS.goto X47.here hx rfl (pc0 := 163) (pc' := 167) rfl (hb hby at_163) (by decide) (by decide) k) ?_
    show own_Go p e below _ T47 (mkF m 167 #[.val (.int p1), .val (.ref b1), .val (.int (9 : Int32)), .val (.int (0 : Int32))] [(.int (1 : Int32))])
    refine own_retZ X47 hx hlk hret (hb hby at_167) (Or.inr rfl) (by decide) (by decide) ?_
    exact ⟨rfl, M47⟩
  · show own_Go p e below _ T37 (mkF m 133 #[.val (.int p1), .val (.ref b1), .unset, .unset] [(.int (10 : Int32))])
    refine own_go (fun t k => XS.istoreN X37.here hx rfl (hb hby at_133) rfl (l' := #[.val (.int p1), .val (.ref b1), .val (.int (10 : Int32)), .unset]) rfl k) ?_
    show own_Go p e below _ T37 (mkF m 134 #[.val (.int p1), .val (.ref b1), .val (.int (10 : Int32)), .unset] [])
    refine own_go (fun t k => XS.iloadN X37.here hx rfl (hb hby at_134) rfl k) ?_
    show own_Go p e below _ T37 (mkF m 135 #[.val (.int p1), .val (.ref b1), .val (.int (10 : Int32)), .unset] [(.int (10 : Int32))])
    refine own_go (fun t k => XS.bipush X37.here hx rfl (hb hby at_135) k) ?_
    show own_Go p e below _ T37 (mkF m 137 #[.val (.int p1), .val (.ref b1), .val (.int (10 : Int32)), .unset] [(.int (10 : Int32)), (.int (10 : Int32))])
    refine own_go (fun t k => XS.icmpNo X37.here hx rfl (hb hby at_137) rfl (XT.ii_lt_f (by decide)) k) ?_
    show own_Go p e below _ T37 (mkF m 140 #[.val (.int p1), .val (.ref b1), .val (.int (10 : Int32)), .unset] [])
    refine own_go (fun t k => XS.iloadN X37.here hx rfl (hb hby at_140) rfl k) ?_
    show own_Go p e below _ T37 (mkF m 141 #[.val (.int p1), .val (.ref b1), .val (.int (10 : Int32)), .unset] [(.int (10 : Int32))])
    refine own_go (fun t k => XS.bipush X37.here hx rfl (hb hby at_141) k) ?_
    show own_Go p e below _ T37 (mkF m 143 #[.val (.int p1), .val (.ref b1), .val (.int (10 : Int32)), .unset] [(.int (13 : Int32)), (.int (10 : Int32))])
    refine own_go (fun t k => XS.icmpNo X37.here hx rfl (hb hby at_143) rfl (XT.ii_gt_f (by decide)) k) ?_
    show own_Go p e below _ T37 (mkF m 146 #[.val (.int p1), .val (.ref b1), .val (.int (10 : Int32)), .unset] [])
    refine own_go (fun t k => XS.iconst X37.here hx rfl (hb hby at_146) k) ?_
    show own_Go p e below _ T37 (mkF m 147 #[.val (.int p1), .val (.ref b1), .val (.int (10 : Int32)), .unset] [(.int (1 : Int32))])
    refine own_go (fun t k => XS.goto X37.here hx rfl (pc0 := 147) (pc' := 151) rfl (hb hby at_147) (by decide) (by decide) k) ?_
    show own_Go p e below _ T37 (mkF m 151 #[.val (.int p1), .val (.ref b1), .val (.int (10 : Int32)), .unset] [(.int (1 : Int32))])
    refine own_go (fun t k => XS.istoreN X37.here hx rfl (hb hby at_151) rfl (l' := #[.val (.int p1), .val (.ref b1), .val (.int (10 : Int32)), .val (.int (1 : Int32))]) rfl k) ?_
    show own_Go p e below _ T37 (mkF m 152 #[.val (.int p1), .val (.ref b1), .val (.int (10 : Int32)), .val (.int (1 : Int32))] [])
    refine own_go (fun t k => XS.aloadN X37.here hx rfl (hb hby at_152) rfl rfl k) ?_
    show own_Go p e below _ T37 (mkF m 153 #[.val (.int p1), .val (.ref b1), .val (.int (10 : Int32)), .val (.int (1 : Int32))] [(.ref b1)])
    refine own_go (fun t k => XS.iloadN X37.here hx rfl (hb hby at_153) rfl k) ?_
    show own_Go p e below _ T37 (mkF m 154 #[.val (.int p1), .val (.ref b1), .val (.int (10 : Int32)), .val (.int (1 : Int32))] [(.int (10 : Int32)), (.ref b1)])
    refine own_go (own_ldR X37 hx hZ e37 (Ls := #[.val (.int p1), .val (.ref b1), .val (.int (10 : Int32)), .val (.int (1 : Int32))]) (rest := []) V37 rfl (j := (10 : Int32)) (by decide) (v := (.ref a_AND)) rfl (hb hby at_154)) ?_
    show own_Go p e below _ T37 (mkF m 155 #[.val (.int p1), .val (.ref b1), .val (.int (10 : Int32)), .val (.int (1 : Int32))] [(.ref a_AND)])
    obtain ⟨_, T48, L48, X48, ⟨rfl, N48, e48⟩, st48⟩ := own_callV X37 hx hZ (y := (⟨"com/example/forking_paths/forkingpaths/model/Formula$Kind", "isInfix", "()Z"⟩ : MethodName)) (z := (⟨"com/example/forking_paths/forkingpaths/model/Formula$Kind", "isInfix", "()Z"⟩ : MethodName)) (b := a_AND) (argsL := []) (rest := []) (Ls := #[.val (.int p1), .val (.ref b1), .val (.int (10 : Int32)), .val (.int (1 : Int32))]) hown (own_w hw 41 rfl) (own_w hw 42 rfl) (own_w hw 44 rfl) (notFace_of_selects (args := #[]) (mvT hZ (own_w hw 44 rfl))) (own_w hw 43 rfl) (own_w hw 45 rfl) (own_w hw 3 rfl) (by decide) e37 (E_AND.ext old37.2) (rmB l Z a0 hw [] a_AND h37 n0 (own_oldge old37) (F_AND_arity.ext old37.2) (F_AND_quantifier.ext old37.2)) 0 (by decide) (by decide) (by decide) (by decide) (by rw [hml]; rfl) (lenOf pd_0 rfl) rfl (Nat.le_of_eq rfl) (hb hby at_155)
    have M48 := Fr.app N37 N48
    refine own_go st48 ?_
    show own_Go p e below _ T48 (mkF m 158 #[.val (.int p1), .val (.ref b1), .val (.int (10 : Int32)), .val (.int (1 : Int32))] [(.int (1 : Int32))])
    refine own_go (fun t k => XS.iloadN X48.here hx rfl (hb hby at_158) rfl k) ?_
    show own_Go p e below _ T48 (mkF m 159 #[.val (.int p1), .val (.ref b1), .val (.int (10 : Int32)), .val (.int (1 : Int32))] [(.int (1 : Int32)), (.int (1 : Int32))])
    refine own_go (fun t k => XS.icmpNo X48.here hx rfl (hb hby at_159) rfl (XT.ii_ne_f (by decide)) k) ?_
    show own_Go p e below _ T48 (mkF m 162 #[.val (.int p1), .val (.ref b1), .val (.int (10 : Int32)), .val (.int (1 : Int32))] [])
    refine own_go (fun t k => XS.iconst X48.here hx rfl (hb hby at_162) k) ?_
    show own_Go p e below _ T48 (mkF m 163 #[.val (.int p1), .val (.ref b1), .val (.int (10 : Int32)), .val (.int (1 : Int32))] [(.int (1 : Int32))])
    refine own_go (fun t k => XS.goto X48.here hx rfl (pc0 := 163) (pc' := 167) rfl (hb hby at_163) (by decide) (by decide) k) ?_
    show own_Go p e below _ T48 (mkF m 167 #[.val (.int p1), .val (.ref b1), .val (.int (10 : Int32)), .val (.int (1 : Int32))] [(.int (1 : Int32))])
    refine own_retZ X48 hx hlk hret (hb hby at_167) (Or.inr rfl) (by decide) (by decide) ?_
    exact ⟨rfl, M48⟩
  · show own_Go p e below _ T37 (mkF m 133 #[.val (.int p1), .val (.ref b1), .unset, .unset] [(.int (11 : Int32))])
    refine own_go (fun t k => XS.istoreN X37.here hx rfl (hb hby at_133) rfl (l' := #[.val (.int p1), .val (.ref b1), .val (.int (11 : Int32)), .unset]) rfl k) ?_
    show own_Go p e below _ T37 (mkF m 134 #[.val (.int p1), .val (.ref b1), .val (.int (11 : Int32)), .unset] [])
    refine own_go (fun t k => XS.iloadN X37.here hx rfl (hb hby at_134) rfl k) ?_
    show own_Go p e below _ T37 (mkF m 135 #[.val (.int p1), .val (.ref b1), .val (.int (11 : Int32)), .unset] [(.int (11 : Int32))])
    refine own_go (fun t k => XS.bipush X37.here hx rfl (hb hby at_135) k) ?_
    show own_Go p e below _ T37 (mkF m 137 #[.val (.int p1), .val (.ref b1), .val (.int (11 : Int32)), .unset] [(.int (10 : Int32)), (.int (11 : Int32))])
    refine own_go (fun t k => XS.icmpNo X37.here hx rfl (hb hby at_137) rfl (XT.ii_lt_f (by decide)) k) ?_
    show own_Go p e below _ T37 (mkF m 140 #[.val (.int p1), .val (.ref b1), .val (.int (11 : Int32)), .unset] [])
    refine own_go (fun t k => XS.iloadN X37.here hx rfl (hb hby at_140) rfl k) ?_
    show own_Go p e below _ T37 (mkF m 141 #[.val (.int p1), .val (.ref b1), .val (.int (11 : Int32)), .unset] [(.int (11 : Int32))])
    refine own_go (fun t k => XS.bipush X37.here hx rfl (hb hby at_141) k) ?_
    show own_Go p e below _ T37 (mkF m 143 #[.val (.int p1), .val (.ref b1), .val (.int (11 : Int32)), .unset] [(.int (13 : Int32)), (.int (11 : Int32))])
    refine own_go (fun t k => XS.icmpNo X37.here hx rfl (hb hby at_143) rfl (XT.ii_gt_f (by decide)) k) ?_
    show own_Go p e below _ T37 (mkF m 146 #[.val (.int p1), .val (.ref b1), .val (.int (11 : Int32)), .unset] [])
    refine own_go (fun t k => XS.iconst X37.here hx rfl (hb hby at_146) k) ?_
    show own_Go p e below _ T37 (mkF m 147 #[.val (.int p1), .val (.ref b1), .val (.int (11 : Int32)), .unset] [(.int (1 : Int32))])
    refine own_go (fun t k => XS.goto X37.here hx rfl (pc0 := 147) (pc' := 151) rfl (hb hby at_147) (by decide) (by decide) k) ?_
    show own_Go p e below _ T37 (mkF m 151 #[.val (.int p1), .val (.ref b1), .val (.int (11 : Int32)), .unset] [(.int (1 : Int32))])
    refine own_go (fun t k => XS.istoreN X37.here hx rfl (hb hby at_151) rfl (l' := #[.val (.int p1), .val (.ref b1), .val (.int (11 : Int32)), .val (.int (1 : Int32))]) rfl k) ?_
    show own_Go p e below _ T37 (mkF m 152 #[.val (.int p1), .val (.ref b1), .val (.int (11 : Int32)), .val (.int (1 : Int32))] [])
    refine own_go (fun t k => XS.aloadN X37.here hx rfl (hb hby at_152) rfl rfl k) ?_
    show own_Go p e below _ T37 (mkF m 153 #[.val (.int p1), .val (.ref b1), .val (.int (11 : Int32)), .val (.int (1 : Int32))] [(.ref b1)])
    refine own_go (fun t k => XS.iloadN X37.here hx rfl (hb hby at_153) rfl k) ?_
    show own_Go p e below _ T37 (mkF m 154 #[.val (.int p1), .val (.ref b1), .val (.int (11 : Int32)), .val (.int (1 : Int32))] [(.int (11 : Int32)), (.ref b1)])
    refine own_go (own_ldR X37 hx hZ e37 (Ls := #[.val (.int p1), .val (.ref b1), .val (.int (11 : Int32)), .val (.int (1 : Int32))]) (rest := []) V37 rfl (j := (11 : Int32)) (by decide) (v := (.ref a_OR)) rfl (hb hby at_154)) ?_
    show own_Go p e below _ T37 (mkF m 155 #[.val (.int p1), .val (.ref b1), .val (.int (11 : Int32)), .val (.int (1 : Int32))] [(.ref a_OR)])
    obtain ⟨_, T49, L49, X49, ⟨rfl, N49, e49⟩, st49⟩ := own_callV X37 hx hZ (y := (⟨"com/example/forking_paths/forkingpaths/model/Formula$Kind", "isInfix", "()Z"⟩ : MethodName)) (z := (⟨"com/example/forking_paths/forkingpaths/model/Formula$Kind", "isInfix", "()Z"⟩ : MethodName)) (b := a_OR) (argsL := []) (rest := []) (Ls := #[.val (.int p1), .val (.ref b1), .val (.int (11 : Int32)), .val (.int (1 : Int32))]) hown (own_w hw 41 rfl) (own_w hw 42 rfl) (own_w hw 44 rfl) (notFace_of_selects (args := #[]) (mvT hZ (own_w hw 44 rfl))) (own_w hw 43 rfl) (own_w hw 45 rfl) (own_w hw 3 rfl) (by decide) e37 (E_OR.ext old37.2) (rmB l Z a0 hw [] a_OR h37 n0 (own_oldge old37) (F_OR_arity.ext old37.2) (F_OR_quantifier.ext old37.2)) 0 (by decide) (by decide) (by decide) (by decide) (by rw [hml]; rfl) (lenOf pd_0 rfl) rfl (Nat.le_of_eq rfl) (hb hby at_155)
    have M49 := Fr.app N37 N49
    refine own_go st49 ?_
    show own_Go p e below _ T49 (mkF m 158 #[.val (.int p1), .val (.ref b1), .val (.int (11 : Int32)), .val (.int (1 : Int32))] [(.int (1 : Int32))])
    refine own_go (fun t k => XS.iloadN X49.here hx rfl (hb hby at_158) rfl k) ?_
    show own_Go p e below _ T49 (mkF m 159 #[.val (.int p1), .val (.ref b1), .val (.int (11 : Int32)), .val (.int (1 : Int32))] [(.int (1 : Int32)), (.int (1 : Int32))])
    refine own_go (fun t k => XS.icmpNo X49.here hx rfl (hb hby at_159) rfl (XT.ii_ne_f (by decide)) k) ?_
    show own_Go p e below _ T49 (mkF m 162 #[.val (.int p1), .val (.ref b1), .val (.int (11 : Int32)), .val (.int (1 : Int32))] [])
    refine own_go (fun t k => XS.iconst X49.here hx rfl (hb hby at_162) k) ?_
    show own_Go p e below _ T49 (mkF m 163 #[.val (.int p1), .val (.ref b1), .val (.int (11 : Int32)), .val (.int (1 : Int32))] [(.int (1 : Int32))])
    refine own_go (fun t k => XS.goto X49.here hx rfl (pc0 := 163) (pc' := 167) rfl (hb hby at_163) (by decide) (by decide) k) ?_
    show own_Go p e below _ T49 (mkF m 167 #[.val (.int p1), .val (.ref b1), .val (.int (11 : Int32)), .val (.int (1 : Int32))] [(.int (1 : Int32))])
    refine own_retZ X49 hx hlk hret (hb hby at_167) (Or.inr rfl) (by decide) (by decide) ?_
    exact ⟨rfl, M49⟩
  · show own_Go p e below _ T37 (mkF m 133 #[.val (.int p1), .val (.ref b1), .unset, .unset] [(.int (12 : Int32))])
    refine own_go (fun t k => XS.istoreN X37.here hx rfl (hb hby at_133) rfl (l' := #[.val (.int p1), .val (.ref b1), .val (.int (12 : Int32)), .unset]) rfl k) ?_
    show own_Go p e below _ T37 (mkF m 134 #[.val (.int p1), .val (.ref b1), .val (.int (12 : Int32)), .unset] [])
    refine own_go (fun t k => XS.iloadN X37.here hx rfl (hb hby at_134) rfl k) ?_
    show own_Go p e below _ T37 (mkF m 135 #[.val (.int p1), .val (.ref b1), .val (.int (12 : Int32)), .unset] [(.int (12 : Int32))])
    refine own_go (fun t k => XS.bipush X37.here hx rfl (hb hby at_135) k) ?_
    show own_Go p e below _ T37 (mkF m 137 #[.val (.int p1), .val (.ref b1), .val (.int (12 : Int32)), .unset] [(.int (10 : Int32)), (.int (12 : Int32))])
    refine own_go (fun t k => XS.icmpNo X37.here hx rfl (hb hby at_137) rfl (XT.ii_lt_f (by decide)) k) ?_
    show own_Go p e below _ T37 (mkF m 140 #[.val (.int p1), .val (.ref b1), .val (.int (12 : Int32)), .unset] [])
    refine own_go (fun t k => XS.iloadN X37.here hx rfl (hb hby at_140) rfl k) ?_
    show own_Go p e below _ T37 (mkF m 141 #[.val (.int p1), .val (.ref b1), .val (.int (12 : Int32)), .unset] [(.int (12 : Int32))])
    refine own_go (fun t k => XS.bipush X37.here hx rfl (hb hby at_141) k) ?_
    show own_Go p e below _ T37 (mkF m 143 #[.val (.int p1), .val (.ref b1), .val (.int (12 : Int32)), .unset] [(.int (13 : Int32)), (.int (12 : Int32))])
    refine own_go (fun t k => XS.icmpNo X37.here hx rfl (hb hby at_143) rfl (XT.ii_gt_f (by decide)) k) ?_
    show own_Go p e below _ T37 (mkF m 146 #[.val (.int p1), .val (.ref b1), .val (.int (12 : Int32)), .unset] [])
    refine own_go (fun t k => XS.iconst X37.here hx rfl (hb hby at_146) k) ?_
    show own_Go p e below _ T37 (mkF m 147 #[.val (.int p1), .val (.ref b1), .val (.int (12 : Int32)), .unset] [(.int (1 : Int32))])
    refine own_go (fun t k => XS.goto X37.here hx rfl (pc0 := 147) (pc' := 151) rfl (hb hby at_147) (by decide) (by decide) k) ?_
    show own_Go p e below _ T37 (mkF m 151 #[.val (.int p1), .val (.ref b1), .val (.int (12 : Int32)), .unset] [(.int (1 : Int32))])
    refine own_go (fun t k => XS.istoreN X37.here hx rfl (hb hby at_151) rfl (l' := #[.val (.int p1), .val (.ref b1), .val (.int (12 : Int32)), .val (.int (1 : Int32))]) rfl k) ?_
    show own_Go p e below _ T37 (mkF m 152 #[.val (.int p1), .val (.ref b1), .val (.int (12 : Int32)), .val (.int (1 : Int32))] [])
    refine own_go (fun t k => XS.aloadN X37.here hx rfl (hb hby at_152) rfl rfl k) ?_
    show own_Go p e below _ T37 (mkF m 153 #[.val (.int p1), .val (.ref b1), .val (.int (12 : Int32)), .val (.int (1 : Int32))] [(.ref b1)])
    refine own_go (fun t k => XS.iloadN X37.here hx rfl (hb hby at_153) rfl k) ?_
    show own_Go p e below _ T37 (mkF m 154 #[.val (.int p1), .val (.ref b1), .val (.int (12 : Int32)), .val (.int (1 : Int32))] [(.int (12 : Int32)), (.ref b1)])
    refine own_go (own_ldR X37 hx hZ e37 (Ls := #[.val (.int p1), .val (.ref b1), .val (.int (12 : Int32)), .val (.int (1 : Int32))]) (rest := []) V37 rfl (j := (12 : Int32)) (by decide) (v := (.ref a_IFF)) rfl (hb hby at_154)) ?_
    show own_Go p e below _ T37 (mkF m 155 #[.val (.int p1), .val (.ref b1), .val (.int (12 : Int32)), .val (.int (1 : Int32))] [(.ref a_IFF)])
    obtain ⟨_, T50, L50, X50, ⟨rfl, N50, e50⟩, st50⟩ := own_callV X37 hx hZ (y := (⟨"com/example/forking_paths/forkingpaths/model/Formula$Kind", "isInfix", "()Z"⟩ : MethodName)) (z := (⟨"com/example/forking_paths/forkingpaths/model/Formula$Kind", "isInfix", "()Z"⟩ : MethodName)) (b := a_IFF) (argsL := []) (rest := []) (Ls := #[.val (.int p1), .val (.ref b1), .val (.int (12 : Int32)), .val (.int (1 : Int32))]) hown (own_w hw 41 rfl) (own_w hw 42 rfl) (own_w hw 44 rfl) (notFace_of_selects (args := #[]) (mvT hZ (own_w hw 44 rfl))) (own_w hw 43 rfl) (own_w hw 45 rfl) (own_w hw 3 rfl) (by decide) e37 (E_IFF.ext old37.2) (rmB l Z a0 hw [] a_IFF h37 n0 (own_oldge old37) (F_IFF_arity.ext old37.2) (F_IFF_quantifier.ext old37.2)) 0 (by decide) (by decide) (by decide) (by decide) (by rw [hml]; rfl) (lenOf pd_0 rfl) rfl (Nat.le_of_eq rfl) (hb hby at_155)
    have M50 := Fr.app N37 N50
    refine own_go st50 ?_
    show own_Go p e below _ T50 (mkF m 158 #[.val (.int p1), .val (.ref b1), .val (.int (12 : Int32)), .val (.int (1 : Int32))] [(.int (1 : Int32))])
    refine own_go (fun t k => XS.iloadN X50.here hx rfl (hb hby at_158) rfl k) ?_
    show own_Go p e below _ T50 (mkF m 159 #[.val (.int p1), .val (.ref b1), .val (.int (12 : Int32)), .val (.int (1 : Int32))] [(.int (1 : Int32)), (.int (1 : Int32))])
    refine own_go (fun t k => XS.icmpNo X50.here hx rfl (hb hby at_159) rfl (XT.ii_ne_f (by decide)) k) ?_
    show own_Go p e below _ T50 (mkF m 162 #[.val (.int p1), .val (.ref b1), .val (.int (12 : Int32)), .val (.int (1 : Int32))] [])
    refine own_go (fun t k => XS.iconst X50.here hx rfl (hb hby at_162) k) ?_
    show own_Go p e below _ T50 (mkF m 163 #[.val (.int p1), .val (.ref b1), .val (.int (12 : Int32)), .val (.int (1 : Int32))] [(.int (1 : Int32))])
    refine own_go (fun t k => XS.goto X50.here hx rfl (pc0 := 163) (pc' := 167) rfl (hb hby at_163) (by decide) (by decide) k) ?_
    show own_Go p e below _ T50 (mkF m 167 #[.val (.int p1), .val (.ref b1), .val (.int (12 : Int32)), .val (.int (1 : Int32))] [(.int (1 : Int32))])
    refine own_retZ X50 hx hlk hret (hb hby at_167) (Or.inr rfl) (by decide) (by decide) ?_
    exact ⟨rfl, M50⟩
  · show own_Go p e below _ T37 (mkF m 133 #[.val (.int p1), .val (.ref b1), .unset, .unset] [(.int (13 : Int32))])
    refine own_go (fun t k => XS.istoreN X37.here hx rfl (hb hby at_133) rfl (l' := #[.val (.int p1), .val (.ref b1), .val (.int (13 : Int32)), .unset]) rfl k) ?_
    show own_Go p e below _ T37 (mkF m 134 #[.val (.int p1), .val (.ref b1), .val (.int (13 : Int32)), .unset] [])
    refine own_go (fun t k => XS.iloadN X37.here hx rfl (hb hby at_134) rfl k) ?_
    show own_Go p e below _ T37 (mkF m 135 #[.val (.int p1), .val (.ref b1), .val (.int (13 : Int32)), .unset] [(.int (13 : Int32))])
    refine own_go (fun t k => XS.bipush X37.here hx rfl (hb hby at_135) k) ?_
    show own_Go p e below _ T37 (mkF m 137 #[.val (.int p1), .val (.ref b1), .val (.int (13 : Int32)), .unset] [(.int (10 : Int32)), (.int (13 : Int32))])
    refine own_go (fun t k => XS.icmpNo X37.here hx rfl (hb hby at_137) rfl (XT.ii_lt_f (by decide)) k) ?_
    show own_Go p e below _ T37 (mkF m 140 #[.val (.int p1), .val (.ref b1), .val (.int (13 : Int32)), .unset] [])
    refine own_go (fun t k => XS.iloadN X37.here hx rfl (hb hby at_140) rfl k) ?_
    show own_Go p e below _ T37 (mkF m 141 #[.val (.int p1), .val (.ref b1), .val (.int (13 : Int32)), .unset] [(.int (13 : Int32))])
    refine own_go (fun t k => XS.bipush X37.here hx rfl (hb hby at_141) k) ?_
    show own_Go p e below _ T37 (mkF m 143 #[.val (.int p1), .val (.ref b1), .val (.int (13 : Int32)), .unset] [(.int (13 : Int32)), (.int (13 : Int32))])
    refine own_go (fun t k => XS.icmpNo X37.here hx rfl (hb hby at_143) rfl (XT.ii_gt_f (by decide)) k) ?_
    show own_Go p e below _ T37 (mkF m 146 #[.val (.int p1), .val (.ref b1), .val (.int (13 : Int32)), .unset] [])
    refine own_go (fun t k => XS.iconst X37.here hx rfl (hb hby at_146) k) ?_
    show own_Go p e below _ T37 (mkF m 147 #[.val (.int p1), .val (.ref b1), .val (.int (13 : Int32)), .unset] [(.int (1 : Int32))])
    refine own_go (fun t k => XS.goto X37.here hx rfl (pc0 := 147) (pc' := 151) rfl (hb hby at_147) (by decide) (by decide) k) ?_
    show own_Go p e below _ T37 (mkF m 151 #[.val (.int p1), .val (.ref b1), .val (.int (13 : Int32)), .unset] [(.int (1 : Int32))])
    refine own_go (fun t k => XS.istoreN X37.here hx rfl (hb hby at_151) rfl (l' := #[.val (.int p1), .val (.ref b1), .val (.int (13 : Int32)), .val (.int (1 : Int32))]) rfl k) ?_
    show own_Go p e below _ T37 (mkF m 152 #[.val (.int p1), .val (.ref b1), .val (.int (13 : Int32)), .val (.int (1 : Int32))] [])
    refine own_go (fun t k => XS.aloadN X37.here hx rfl (hb hby at_152) rfl rfl k) ?_
    show own_Go p e below _ T37 (mkF m 153 #[.val (.int p1), .val (.ref b1), .val (.int (13 : Int32)), .val (.int (1 : Int32))] [(.ref b1)])
    refine own_go (fun t k => XS.iloadN X37.here hx rfl (hb hby at_153) rfl k) ?_
    show own_Go p e below _ T37 (mkF m 154 #[.val (.int p1), .val (.ref b1), .val (.int (13 : Int32)), .val (.int (1 : Int32))] [(.int (13 : Int32)), (.ref b1)])
    refine own_go (own_ldR X37 hx hZ e37 (Ls := #[.val (.int p1), .val (.ref b1), .val (.int (13 : Int32)), .val (.int (1 : Int32))]) (rest := []) V37 rfl (j := (13 : Int32)) (by decide) (v := (.ref a_IMPLIES)) rfl (hb hby at_154)) ?_
    show own_Go p e below _ T37 (mkF m 155 #[.val (.int p1), .val (.ref b1), .val (.int (13 : Int32)), .val (.int (1 : Int32))] [(.ref a_IMPLIES)])
    obtain ⟨_, T51, L51, X51, ⟨rfl, N51, e51⟩, st51⟩ := own_callV X37 hx hZ (y := (⟨"com/example/forking_paths/forkingpaths/model/Formula$Kind", "isInfix", "()Z"⟩ : MethodName)) (z := (⟨"com/example/forking_paths/forkingpaths/model/Formula$Kind", "isInfix", "()Z"⟩ : MethodName)) (b := a_IMPLIES) (argsL := []) (rest := []) (Ls := #[.val (.int p1), .val (.ref b1), .val (.int (13 : Int32)), .val (.int (1 : Int32))]) hown (own_w hw 41 rfl) (own_w hw 42 rfl) (own_w hw 44 rfl) (notFace_of_selects (args := #[]) (mvT hZ (own_w hw 44 rfl))) (own_w hw 43 rfl) (own_w hw 45 rfl) (own_w hw 3 rfl) (by decide) e37 (E_IMPLIES.ext old37.2) (rmB l Z a0 hw [] a_IMPLIES h37 n0 (own_oldge old37) (F_IMPLIES_arity.ext old37.2) (F_IMPLIES_quantifier.ext old37.2)) 0 (by decide) (by decide) (by decide) (by decide) (by rw [hml]; rfl) (lenOf pd_0 rfl) rfl (Nat.le_of_eq rfl) (hb hby at_155)
    have M51 := Fr.app N37 N51
    refine own_go st51 ?_
    show own_Go p e below _ T51 (mkF m 158 #[.val (.int p1), .val (.ref b1), .val (.int (13 : Int32)), .val (.int (1 : Int32))] [(.int (1 : Int32))])
    refine own_go (fun t k => XS.iloadN X51.here hx rfl (hb hby at_158) rfl k) ?_
    show own_Go p e below _ T51 (mkF m 159 #[.val (.int p1), .val (.ref b1), .val (.int (13 : Int32)), .val (.int (1 : Int32))] [(.int (1 : Int32)), (.int (1 : Int32))])
    refine own_go (fun t k => XS.icmpNo X51.here hx rfl (hb hby at_159) rfl (XT.ii_ne_f (by decide)) k) ?_
    show own_Go p e below _ T51 (mkF m 162 #[.val (.int p1), .val (.ref b1), .val (.int (13 : Int32)), .val (.int (1 : Int32))] [])
    refine own_go (fun t k => XS.iconst X51.here hx rfl (hb hby at_162) k) ?_
    show own_Go p e below _ T51 (mkF m 163 #[.val (.int p1), .val (.ref b1), .val (.int (13 : Int32)), .val (.int (1 : Int32))] [(.int (1 : Int32))])
    refine own_go (fun t k => XS.goto X51.here hx rfl (pc0 := 163) (pc' := 167) rfl (hb hby at_163) (by decide) (by decide) k) ?_
    show own_Go p e below _ T51 (mkF m 167 #[.val (.int p1), .val (.ref b1), .val (.int (13 : Int32)), .val (.int (1 : Int32))] [(.int (1 : Int32))])
    refine own_retZ X51 hx hlk hret (hb hby at_167) (Or.inr rfl) (by decide) (by decide) ?_
    exact ⟨rfl, M51⟩
  · show own_Go p e below _ T37 (mkF m 133 #[.val (.int p1), .val (.ref b1), .unset, .unset] [(.int (14 : Int32))])
    refine own_go (fun t k => XS.istoreN X37.here hx rfl (hb hby at_133) rfl (l' := #[.val (.int p1), .val (.ref b1), .val (.int (14 : Int32)), .unset]) rfl k) ?_
    show own_Go p e below _ T37 (mkF m 134 #[.val (.int p1), .val (.ref b1), .val (.int (14 : Int32)), .unset] [])
    refine own_go (fun t k => XS.iloadN X37.here hx rfl (hb hby at_134) rfl k) ?_
    show own_Go p e below _ T37 (mkF m 135 #[.val (.int p1), .val (.ref b1), .val (.int (14 : Int32)), .unset] [(.int (14 : Int32))])
    refine own_go (fun t k => XS.bipush X37.here hx rfl (hb hby at_135) k) ?_
    show own_Go p e below _ T37 (mkF m 137 #[.val (.int p1), .val (.ref b1), .val (.int (14 : Int32)), .unset] [(.int (10 : Int32)), (.int (14 : Int32))])
    refine own_go (fun t k => XS.icmpNo X37.here hx rfl (hb hby at_137) rfl (XT.ii_lt_f (by decide)) k) ?_
    show own_Go p e below _ T37 (mkF m 140 #[.val (.int p1), .val (.ref b1), .val (.int (14 : Int32)), .unset] [])
    refine own_go (fun t k => XS.iloadN X37.here hx rfl (hb hby at_140) rfl k) ?_
    show own_Go p e below _ T37 (mkF m 141 #[.val (.int p1), .val (.ref b1), .val (.int (14 : Int32)), .unset] [(.int (14 : Int32))])
    refine own_go (fun t k => XS.bipush X37.here hx rfl (hb hby at_141) k) ?_
    show own_Go p e below _ T37 (mkF m 143 #[.val (.int p1), .val (.ref b1), .val (.int (14 : Int32)), .unset] [(.int (13 : Int32)), (.int (14 : Int32))])
    refine own_go (fun t k => XS.icmpYes X37.here hx rfl (pc0 := 143) (pc' := 150) rfl (hb hby at_143) rfl (XT.ii_gt_t (by decide)) (by decide) (by decide) k) ?_
    show own_Go p e below _ T37 (mkF m 150 #[.val (.int p1), .val (.ref b1), .val (.int (14 : Int32)), .unset] [])
    refine own_go (fun t k => XS.iconst X37.here hx rfl (hb hby at_150) k) ?_
    show own_Go p e below _ T37 (mkF m 151 #[.val (.int p1), .val (.ref b1), .val (.int (14 : Int32)), .unset] [(.int (0 : Int32))])
    refine own_go (fun t k => XS.istoreN X37.here hx rfl (hb hby at_151) rfl (l' := #[.val (.int p1), .val (.ref b1), .val (.int (14 : Int32)), .val (.int (0 : Int32))]) rfl k) ?_
    show own_Go p e below _ T37 (mkF m 152 #[.val (.int p1), .val (.ref b1), .val (.int (14 : Int32)), .val (.int (0 : Int32))] [])
    refine own_go (fun t k => XS.aloadN X37.here hx rfl (hb hby at_152) rfl rfl k) ?_
    show own_Go p e below _ T37 (mkF m 153 #[.val (.int p1), .val (.ref b1), .val (.int (14 : Int32)), .val (.int (0 : Int32))] [(.ref b1)])
    refine own_go (fun t k => XS.iloadN X37.here hx rfl (hb hby at_153) rfl k) ?_
    show own_Go p e below _ T37 (mkF m 154 #[.val (.int p1), .val (.ref b1), .val (.int (14 : Int32)), .val (.int (0 : Int32))] [(.int (14 : Int32)), (.ref b1)])
    refine own_go (own_ldR X37 hx hZ e37 (Ls := #[.val (.int p1), .val (.ref b1), .val (.int (14 : Int32)), .val (.int (0 : Int32))]) (rest := []) V37 rfl (j := (14 : Int32)) (by decide) (v := (.ref a_EU)) rfl (hb hby at_154)) ?_
    show own_Go p e below _ T37 (mkF m 155 #[.val (.int p1), .val (.ref b1), .val (.int (14 : Int32)), .val (.int (0 : Int32))] [(.ref a_EU)])
    obtain ⟨_, T52, L52, X52, ⟨rfl, N52, e52⟩, st52⟩ := own_callV X37 hx hZ (y := (⟨"com/example/forking_paths/forkingpaths/model/Formula$Kind", "isInfix", "()Z"⟩ : MethodName)) (z := (⟨"com/example/forking_paths/forkingpaths/model/Formula$Kind", "isInfix", "()Z"⟩ : MethodName)) (b := a_EU) (argsL := []) (rest := []) (Ls := #[.val (.int p1), .val (.ref b1), .val (.int (14 : Int32)), .val (.int (0 : Int32))]) hown (own_w hw 41 rfl) (own_w hw 42 rfl) (own_w hw 44 rfl) (notFace_of_selects (args := #[]) (mvT hZ (own_w hw 44 rfl))) (own_w hw 43 rfl) (own_w hw 45 rfl) (own_w hw 3 rfl) (by decide) e37 (E_EU.ext old37.2) (rmC l Z a0 hw [] a_EU b_ER_quantifier h37 n0 (own_oldge old37) (F_EU_arity.ext old37.2) (F_EU_quantifier.ext old37.2)) 0 (by decide) (by decide) (by decide) (by decide) (by rw [hml]; rfl) (lenOf pd_0 rfl) rfl (Nat.le_of_eq rfl) (hb hby at_155)
    have M52 := Fr.app N37 N52
    refine own_go st52 ?_
    show own_Go p e below _ T52 (mkF m 158 #[.val (.int p1), .val (.ref b1), .val (.int (14 : Int32)), .val (.int (0 : Int32))] [(.int (0 : Int32))])
    refine own_go (fun t k => XS.iloadN X52.here hx rfl (hb hby at_158) rfl k) ?_
    show own_Go p e below _ T52 (mkF m 159 #[.val (.int p1), .val (.ref b1), .val (.int (14 : Int32)), .val (.int (0 : Int32))] [(.int (0 : Int32)), (.int (0 : Int32))])
    refine own_go (fun t k => XS.icmpNo X52.here hx rfl (hb hby at_159) rfl (XT.ii_ne_f (by decide)) k) ?_
    show own_Go p e below _ T52 (mkF m 162 #[.val (.int p1), .val (.ref b1), .val (.int (14 : Int32)), .val (.int (0 : Int32))] [])
    refine own_go (fun t k => XS.iconst X52.here hx rfl (hb hby at_162) k) ?_
    show own_Go p e below _ T52 (mkF m 163 #[.val (.int p1), .val (.ref b1), .val (.int (14 : Int32)), .val (.int (0 : Int32))] [(.int (1 : Int32))])
    refine own_go (fun t k => XS.goto X52.here hx rfl (pc0 := 163) (pc' := 167) rfl (hb hby at_163) (by decide) (by decide) k) ?_
    show own_Go p e below _ T52 (mkF m 167 #[.val (.int p1), .val (.ref b1), .val (.int (14 : Int32)), .val (.int (0 : Int32))] [(.int (1 : Int32))])
    refine own_retZ X52 hx hlk hret (hb hby at_167) (Or.inr rfl) (by decide) (by decide) ?_
    exact ⟨rfl, M52⟩
  · show own_Go p e below _ T37 (mkF m 133 #[.val (.int p1), .val (.ref b1), .unset, .unset] [(.int (15 : Int32))])
    refine own_go (fun t k => XS.istoreN X37.here hx rfl (hb hby at_133) rfl (l' := #[.val (.int p1), .val (.ref b1), .val (.int (15 : Int32)), .unset]) rfl k) ?_
    show own_Go p e below _ T37 (mkF m 134 #[.val (.int p1), .val (.ref b1), .val (.int (15 : Int32)), .unset] [])
    refine own_go (fun t k => XS.iloadN X37.here hx rfl (hb hby at_134) rfl k) ?_
    show own_Go p e below _ T37 (mkF m 135 #[.val (.int p1), .val (.ref b1), .val (.int (15 : Int32)), .unset] [(.int (15 : Int32))])
    refine own_go (fun t k => XS.bipush X37.here hx rfl (hb hby at_135) k) ?_
    show own_Go p e below _ T37 (mkF m 137 #[.val (.int p1), .val (.ref b1), .val (.int (15 : Int32)), .unset] [(.int (10 : Int32)), (.int (15 : Int32))])
    refine own_go (fun t k => XS.icmpNo X37.here hx rfl (hb hby at_137) rfl (XT.ii_lt_f (by decide)) k) ?_
    show own_Go p e below _ T37 (mkF m 140 #[.val (.int p1), .val (.ref b1), .val (.int (15 : Int32)), .unset] [])
    refine own_go (fun t k => XS.iloadN X37.here hx rfl (hb hby at_140) rfl k) ?_
    show own_Go p e below _ T37 (mkF m 141 #[.val (.int p1), .val (.ref b1), .val (.int (15 : Int32)), .unset] [(.int (15 : Int32))])
    refine own_go (fun t k => XS.bipush X37.here hx rfl (hb hby at_141) k) ?_
    show own_Go p e below _ T37 (mkF m 143 #[.val (.int p1), .val (.ref b1), .val (.int (15 : Int32)), .unset] [(.int (13 : Int32)), (.int (15 : Int32))])
    refine own_go (fun t k => XS.icmpYes X37.here hx rfl (pc0 := 143) (pc' := 150) rfl (hb hby at_143) rfl (XT.ii_gt_t (by decide)) (by decide) (by decide) k) ?_
    show own_Go p e below _ T37 (mkF m 150 #[.val (.int p1), .val (.ref b1), .val (.int (15 : Int32)), .unset] [])
    refine own_go (fun t k => XS.iconst X37.here hx rfl (hb hby at_150) k) ?_
    show own_Go p e below _ T37 (mkF m 151 #[.val (.int p1), .val (.ref b1), .val (.int (15 : Int32)), .unset] [(.int (0 : Int32))])
    refine own_go (fun t k => XS.istoreN X37.here hx rfl (hb hby at_151) rfl (l' := #[.val (.int p1), .val (.ref b1), .val (.int (15 : Int32)), .val (.int (0 : Int32))]) rfl k) ?_
    show own_Go p e below _ T37 (mkF m 152 #[.val (.int p1), .val (.ref b1), .val (.int (15 : Int32)), .val (.int (0 : Int32))] [])
    refine own_go (fun t k => XS.aloadN X37.here hx rfl (hb hby at_152) rfl rfl k) ?_
    show own_Go p e below _ T37 (mkF m 153 #[.val (.int p1), .val (.ref b1), .val (.int (15 : Int32)), .val (.int (0 : Int32))] [(.ref b1)])
    refine own_go (fun t k => XS.iloadN X37.here hx rfl (hb hby at_153) rfl k) ?_
    show own_Go p e below _ T37 (mkF m 154 #[.val (.int p1), .val (.ref b1), .val (.int (15 : Int32)), .val (.int (0 : Int32))] [(.int (15 : Int32)), (.ref b1)])
    refine own_go (own_ldR X37 hx hZ e37 (Ls := #[.val (.int p1), .val (.ref b1), .val (.int (15 : Int32)), .val (.int (0 : Int32))]) (rest := []) V37 rfl (j := (15 : Int32)) (by decide) (v := (.ref a_AU)) rfl (hb hby at_154)) ?_
    show own_Go p e below _ T37 (mkF m 155 #[.val (.int p1), .val (.ref b1), .val (.int (15 : Int32)), .val (.int (0 : Int32))] [(.ref a_AU)])
    obtain ⟨_, T53, L53, X53, ⟨rfl, N53, e53⟩, st53⟩ := own_callV X37 hx hZ (y := (⟨"com/example/forking_paths/forkingpaths/model/Formula$Kind", "isInfix", "()Z"⟩ : MethodName)) (z := (⟨"com/example/forking_paths/forkingpaths/model/Formula$Kind", "isInfix", "()Z"⟩ : MethodName)) (b := a_AU) (argsL := []) (rest := []) (Ls := #[.val (.int p1), .val (.ref b1), .val (.int (15 : Int32)), .val (.int (0 : Int32))]) hown (own_w hw 41 rfl) (own_w hw 42 rfl) (own_w hw 44 rfl) (notFace_of_selects (args := #[]) (mvT hZ (own_w hw 44 rfl))) (own_w hw 43 rfl) (own_w hw 45 rfl) (own_w hw 3 rfl) (by decide) e37 (E_AU.ext old37.2) (rmC l Z a0 hw [] a_AU b_AU_quantifier h37 n0 (own_oldge old37) (F_AU_arity.ext old37.2) (F_AU_quantifier.ext old37.2)) 0 (by decide) (by decide) (by decide) (by decide) (by rw [hml]; rfl) (lenOf pd_0 rfl) rfl (Nat.le_of_eq rfl) (hb hby at_155)
    have M53 := Fr.app N37 N53
    refine own_go st53 ?_
    show own_Go p e below _ T53 (mkF m 158 #[.val (.int p1), .val (.ref b1), .val (.int (15 : Int32)), .val (.int (0 : Int32))] [(.int (0 : Int32))])
    refine own_go (fun t k => XS.iloadN X53.here hx rfl (hb hby at_158) rfl k) ?_
    show own_Go p e below _ T53 (mkF m 159 #[.val (.int p1), .val (.ref b1), .val (.int (15 : Int32)), .val (.int (0 : Int32))] [(.int (0 : Int32)), (.int (0 : Int32))])
    refine own_go (fun t k => XS.icmpNo X53.here hx rfl (hb hby at_159) rfl (XT.ii_ne_f (by decide)) k) ?_
    show own_Go p e below _ T53 (mkF m 162 #[.val (.int p1), .val (.ref b1), .val (.int (15 : Int32)), .val (.int (0 : Int32))] [])
    refine own_go (fun t k => XS.iconst X53.here hx rfl (hb hby at_162) k) ?_
    show own_Go p e below _ T53 (mkF m 163 #[.val (.int p1), .val (.ref b1), .val (.int (15 : Int32)), .val (.int (0 : Int32))] [(.int (1 : Int32))])
    refine own_go (fun t k => XS.goto X53.here hx rfl (pc0 := 163) (pc' := 167) rfl (hb hby at_163) (by decide) (by decide) k) ?_
    show own_Go p e below _ T53 (mkF m 167 #[.val (.int p1), .val (.ref b1), .val (.int (15 : Int32)), .val (.int (0 : Int32))] [(.int (1 : Int32))])
    refine own_retZ X53 hx hlk hret (hb hby at_167) (Or.inr rfl) (by decide) (by decide) ?_
    exact ⟨rfl, M53⟩
  · show own_Go p e below _ T37 (mkF m 133 #[.val (.int p1), .val (.ref b1), .unset, .unset] [(.int (16 : Int32))])
    refine own_go (fun t k => XS.istoreN X37.here hx rfl (hb hby at_133) rfl (l' := #[.val (.int p1), .val (.ref b1), .val (.int (16 : Int32)), .unset]) rfl k) ?_
    show own_Go p e below _ T37 (mkF m 134 #[.val (.int p1), .val (.ref b1), .val (.int (16 : Int32)), .unset] [])
    refine own_go (fun t k => XS.iloadN X37.here hx rfl (hb hby at_134) rfl k) ?_
    show own_Go p e below _ T37 (mkF m 135 #[.val (.int p1), .val (.ref b1), .val (.int (16 : Int32)), .unset] [(.int (16 : Int32))])
    refine own_go (fun t k => XS.bipush X37.here hx rfl (hb hby at_135) k) ?_
    show own_Go p e below _ T37 (mkF m 137 #[.val (.int p1), .val (.ref b1), .val (.int (16 : Int32)), .unset] [(.int (10 : Int32)), (.int (16 : Int32))])
    refine own_go (fun t k => XS.icmpNo X37.here hx rfl (hb hby at_137) rfl (XT.ii_lt_f (by decide)) k) ?_
    show own_Go p e below _ T37 (mkF m 140 #[.val (.int p1), .val (.ref b1), .val (.int (16 : Int32)), .unset] [])
    refine own_go (fun t k => XS.iloadN X37.here hx rfl (hb hby at_140) rfl k) ?_
    show own_Go p e below _ T37 (mkF m 141 #[.val (.int p1), .val (.ref b1), .val (.int (16 : Int32)), .unset] [(.int (16 : Int32))])
    refine own_go (fun t k => XS.bipush X37.here hx rfl (hb hby at_141) k) ?_
    show own_Go p e below _ T37 (mkF m 143 #[.val (.int p1), .val (.ref b1), .val (.int (16 : Int32)), .unset] [(.int (13 : Int32)), (.int (16 : Int32))])
    refine own_go (fun t k => XS.icmpYes X37.here hx rfl (pc0 := 143) (pc' := 150) rfl (hb hby at_143) rfl (XT.ii_gt_t (by decide)) (by decide) (by decide) k) ?_
    show own_Go p e below _ T37 (mkF m 150 #[.val (.int p1), .val (.ref b1), .val (.int (16 : Int32)), .unset] [])
    refine own_go (fun t k => XS.iconst X37.here hx rfl (hb hby at_150) k) ?_
    show own_Go p e below _ T37 (mkF m 151 #[.val (.int p1), .val (.ref b1), .val (.int (16 : Int32)), .unset] [(.int (0 : Int32))])
    refine own_go (fun t k => XS.istoreN X37.here hx rfl (hb hby at_151) rfl (l' := #[.val (.int p1), .val (.ref b1), .val (.int (16 : Int32)), .val (.int (0 : Int32))]) rfl k) ?_
    show own_Go p e below _ T37 (mkF m 152 #[.val (.int p1), .val (.ref b1), .val (.int (16 : Int32)), .val (.int (0 : Int32))] [])
    refine own_go (fun t k => XS.aloadN X37.here hx rfl (hb hby at_152) rfl rfl k) ?_
    show own_Go p e below _ T37 (mkF m 153 #[.val (.int p1), .val (.ref b1), .val (.int (16 : Int32)), .val (.int (0 : Int32))] [(.ref b1)])
    refine own_go (fun t k => XS.iloadN X37.here hx rfl (hb hby at_153) rfl k) ?_
    show own_Go p e below _ T37 (mkF m 154 #[.val (.int p1), .val (.ref b1), .val (.int (16 : Int32)), .val (.int (0 : Int32))] [(.int (16 : Int32)), (.ref b1)])
    refine own_go (own_ldR X37 hx hZ e37 (Ls := #[.val (.int p1), .val (.ref b1), .val (.int (16 : Int32)), .val (.int (0 : Int32))]) (rest := []) V37 rfl (j := (16 : Int32)) (by decide) (v := (.ref a_ER)) rfl (hb hby at_154)) ?_
    show own_Go p e below _ T37 (mkF m 155 #[.val (.int p1), .val (.ref b1), .val (.int (16 : Int32)), .val (.int (0 : Int32))] [(.ref a_ER)])
    obtain ⟨_, T54, L54, X54, ⟨rfl, N54, e54⟩, st54⟩ := own_callV X37 hx hZ (y := (⟨"com/example/forking_paths/forkingpaths/model/Formula$Kind", "isInfix", "()Z"⟩ : MethodName)) (z := (⟨"com/example/forking_paths/forkingpaths/model/Formula$Kind", "isInfix", "()Z"⟩ : MethodName)) (b := a_ER) (argsL := []) (rest := []) (Ls := #[.val (.int p1), .val (.ref b1), .val (.int (16 : Int32)), .val (.int (0 : Int32))]) hown (own_w hw 41 rfl) (own_w hw 42 rfl) (own_w hw 44 rfl) (notFace_of_selects (args := #[]) (mvT hZ (own_w hw 44 rfl))) (own_w hw 43 rfl) (own_w hw 45 rfl) (own_w hw 3 rfl) (by decide) e37 (E_ER.ext old37.2) (rmC l Z a0 hw [] a_ER b_ER_quantifier h37 n0 (own_oldge old37) (F_ER_arity.ext old37.2) (F_ER_quantifier.ext old37.2)) 0 (by decide) (by decide) (by decide) (by decide) (by rw [hml]; rfl) (lenOf pd_0 rfl) rfl (Nat.le_of_eq rfl) (hb hby at_155)
    have M54 := Fr.app N37 N54
    refine own_go st54 ?_
    show own_Go p e below _ T54 (mkF m 158 #[.val (.int p1), .val (.ref b1), .val (.int (16 : Int32)), .val (.int (0 : Int32))] [(.int (0 : Int32))])
    refine own_go (fun t k => XS.iloadN X54.here hx rfl (hb hby at_158) rfl k) ?_
    show own_Go p e below _ T54 (mkF m 159 #[.val (.int p1), .val (.ref b1), .val (.int (16 : Int32)), .val (.int (0 : Int32))] [(.int (0 : Int32)), (.int (0 : Int32))])
    refine own_go (fun t k => XS.icmpNo X54.here hx rfl (hb hby at_159) rfl (XT.ii_ne_f (by decide)) k) ?_
    show own_Go p e below _ T54 (mkF m 162 #[.val (.int p1), .val (.ref b1), .val (.int (16 : Int32)), .val (.int (0 : Int32))] [])
    refine own_go (fun t k => XS.iconst X54.here hx rfl (hb hby at_162) k) ?_
    show own_Go p e below _ T54 (mkF m 163 #[.val (.int p1), .val (.ref b1), .val (.int (16 : Int32)), .val (.int (0 : Int32))] [(.int (1 : Int32))])
    refine own_go (fun t k => XS.goto X54.here hx rfl (pc0 := 163) (pc' := 167) rfl (hb hby at_163) (by decide) (by decide) k) ?_
    show own_Go p e below _ T54 (mkF m 167 #[.val (.int p1), .val (.ref b1), .val (.int (16 : Int32)), .val (.int (0 : Int32))] [(.int (1 : Int32))])
    refine own_retZ X54 hx hlk hret (hb hby at_167) (Or.inr rfl) (by decide) (by decide) ?_
    exact ⟨rfl, M54⟩
  · show own_Go p e below _ T37 (mkF m 133 #[.val (.int p1), .val (.ref b1), .unset, .unset] [(.int (17 : Int32))])
    refine own_go (fun t k => XS.istoreN X37.here hx rfl (hb hby at_133) rfl (l' := #[.val (.int p1), .val (.ref b1), .val (.int (17 : Int32)), .unset]) rfl k) ?_
    show own_Go p e below _ T37 (mkF m 134 #[.val (.int p1), .val (.ref b1), .val (.int (17 : Int32)), .unset] [])
    refine own_go (fun t k => XS.iloadN X37.here hx rfl (hb hby at_134) rfl k) ?_
    show own_Go p e below _ T37 (mkF m 135 #[.val (.int p1), .val (.ref b1), .val (.int (17 : Int32)), .unset] [(.int (17 : Int32))])
    refine own_go (fun t k => XS.bipush X37.here hx rfl (hb hby at_135) k) ?_
    show own_Go p e below _ T37 (mkF m 137 #[.val (.int p1), .val (.ref b1), .val (.int (17 : Int32)), .unset] [(.int (10 : Int32)), (.int (17 : Int32))])
    refine own_go (fun t k => XS.icmpNo X37.here hx rfl (hb hby at_137) rfl (XT.ii_lt_f (by decide)) k) ?_
    show own_Go p e below _ T37 (mkF m 140 #[.val (.int p1), .val (.ref b1), .val (.int (17 : Int32)), .unset] [])
    refine own_go (fun t k => XS.iloadN X37.here hx rfl (hb hby at_140) rfl k) ?_
    show own_Go p e below _ T37 (mkF m 141 #[.val (.int p1), .val (.ref b1), .val (.int (17 : Int32)), .unset] [(.int (17 : Int32))])
    refine own_go (fun t k => XS.bipush X37.here hx rfl (hb hby at_141) k) ?_
    show own_Go p e below _ T37 (mkF m 143 #[.val (.int p1), .val (.ref b1), .val (.int (17 : Int32)), .unset] [(.int (13 : Int32)), (.int (17 : Int32))])
    refine own_go (fun t k => XS.icmpYes X37.here hx rfl (pc0 := 143) (pc' := 150) rfl (hb hby at_143) rfl (XT.ii_gt_t (by decide)) (by decide) (by decide) k) ?_
    show own_Go p e below _ T37 (mkF m 150 #[.val (.int p1), .val (.ref b1), .val (.int (17 : Int32)), .unset] [])
    refine own_go (fun t k => XS.iconst X37.here hx rfl (hb hby at_150) k) ?_
    show own_Go p e below _ T37 (mkF m 151 #[.val (.int p1), .val (.ref b1), .val (.int (17 : Int32)), .unset] [(.int (0 : Int32))])
    refine own_go (fun t k => XS.istoreN X37.here hx rfl (hb hby at_151) rfl (l' := #[.val (.int p1), .val (.ref b1), .val (.int (17 : Int32)), .val (.int (0 : Int32))]) rfl k) ?_
    show own_Go p e below _ T37 (mkF m 152 #[.val (.int p1), .val (.ref b1), .val (.int (17 : Int32)), .val (.int (0 : Int32))] [])
    refine own_go (fun t k => XS.aloadN X37.here hx rfl (hb hby at_152) rfl rfl k) ?_
    show own_Go p e below _ T37 (mkF m 153 #[.val (.int p1), .val (.ref b1), .val (.int (17 : Int32)), .val (.int (0 : Int32))] [(.ref b1)])
    refine own_go (fun t k => XS.iloadN X37.here hx rfl (hb hby at_153) rfl k) ?_
    show own_Go p e below _ T37 (mkF m 154 #[.val (.int p1), .val (.ref b1), .val (.int (17 : Int32)), .val (.int (0 : Int32))] [(.int (17 : Int32)), (.ref b1)])
    refine own_go (own_ldR X37 hx hZ e37 (Ls := #[.val (.int p1), .val (.ref b1), .val (.int (17 : Int32)), .val (.int (0 : Int32))]) (rest := []) V37 rfl (j := (17 : Int32)) (by decide) (v := (.ref a_AR)) rfl (hb hby at_154)) ?_
    show own_Go p e below _ T37 (mkF m 155 #[.val (.int p1), .val (.ref b1), .val (.int (17 : Int32)), .val (.int (0 : Int32))] [(.ref a_AR)])
    obtain ⟨_, T55, L55, X55, ⟨rfl, N55, e55⟩, st55⟩ := own_callV X37 hx hZ (y := (⟨"com/example/forking_paths/forkingpaths/model/Formula$Kind", "isInfix", "()Z"⟩ : MethodName)) (z := (⟨"com/example/forking_paths/forkingpaths/model/Formula$Kind", "isInfix", "()Z"⟩ : MethodName)) (b := a_AR) (argsL := []) (rest := []) (Ls := #[.val (.int p1), .val (.ref b1), .val (.int (17 : Int32)), .val (.int (0 : Int32))]) hown (own_w hw 41 rfl) (own_w hw 42 rfl) (own_w hw 44 rfl) (notFace_of_selects (args := #[]) (mvT hZ (own_w hw 44 rfl))) (own_w hw 43 rfl) (own_w hw 45 rfl) (own_w hw 3 rfl) (by decide) e37 (E_AR.ext old37.2) (rmC l Z a0 hw [] a_AR b_AU_quantifier h37 n0 (own_oldge old37) (F_AR_arity.ext old37.2) (F_AR_quantifier.ext old37.2)) 0 (by decide) (by decide) (by decide) (by decide) (by rw [hml]; rfl) (lenOf pd_0 rfl) rfl (Nat.le_of_eq rfl) (hb hby at_155)
    have M55 := Fr.app N37 N55
    refine own_go st55 ?_
    show own_Go p e below _ T55 (mkF m 158 #[.val (.int p1), .val (.ref b1), .val (.int (17 : Int32)), .val (.int (0 : Int32))] [(.int (0 : Int32))])
    refine own_go (fun t k => XS.iloadN X55.here hx rfl (hb hby at_158) rfl k) ?_
    show own_Go p e below _ T55 (mkF m 159 #[.val (.int p1), .val (.ref b1), .val (.int (17 : Int32)), .val (.int (0 : Int32))] [(.int (0 : Int32)), (.int (0 : Int32))])
    refine own_go (fun t k => XS.icmpNo X55.here hx rfl (hb hby at_159) rfl (XT.ii_ne_f (by decide)) k) ?_
    show own_Go p e below _ T55 (mkF m 162 #[.val (.int p1), .val (.ref b1), .val (.int (17 : Int32)), .val (.int (0 : Int32))] [])
    refine own_go (fun t k => XS.iconst X55.here hx rfl (hb hby at_162) k) ?_
    show own_Go p e below _ T55 (mkF m 163 #[.val (.int p1), .val (.ref b1), .val (.int (17 : Int32)), .val (.int (0 : Int32))] [(.int (1 : Int32))])
    refine own_go (fun t k => XS.goto X55.here hx rfl (pc0 := 163) (pc' := 167) rfl (hb hby at_163) (by decide) (by decide) k) ?_
    show own_Go p e below _ T55 (mkF m 167 #[.val (.int p1), .val (.ref b1), .val (.int (17 : Int32)), .val (.int (0 : Int32))] [(.int (1 : Int32))])
    refine own_retZ X55 hx hlk hret (hb hby at_167) (Or.inr rfl) (by decide) (by decide) ?_
    exact ⟨rfl, M55⟩
set_option maxRecDepth 65536 in
set_option maxHeartbeats 40000000 in
theorem comes_1 {Post : Tables → Env → Array Value → State → Outcome → State → Prop} (hpost : ∀ tb e args s v u, (limb_1_1.after args s (.returned v) u = true ∧ limb_1_2.after args s (.returned v) u = true ∧ True) → FrameEnd s (.returned v) u (Jvm.fieldLocs frame_1_writes args s ++ Jvm.arrayLocs frame_1_arrays args s ++ Jvm.staticLocs frame_1_statics s) 16 128 → Post tb e args s (.returned v) u) :
    ArmFor flags0 classFile x code maxLocals ret World_1 tables_1 room_1 Calls_1 rest_1 Pre_1 Post := by
  intro l hfl _ _ p e ha hc hk s m args below hf hA hF happ hP
  obtain ⟨hcalls, hrest, hpre⟩ := hP
  obtain ⟨-, -, -, hnamed, -, -, -, hat⟩ := (Spec.applies_iff hf).mp happ
  obtain ⟨hg, hn⟩ := and_e (Cond.before_iff.mp (show (Jvm.Cond.and given_1 narrow_1).before args s = true from hpre))
  obtain ⟨g1, g2⟩ := and_e hg
  obtain ⟨w0, rfl⟩ : ∃ w0 : Value, args = #[w0] := by
    have hs : args.size = 1 := by simpa [Cond.value, given_1] using g1
    obtain ⟨L⟩ := args
    match L, hs with
    | [w0], _ => exact ⟨w0, rfl⟩
  have hw := fun d (hd : d ∈ tables_1) => atoms_spec (ws := Jvm.Cond.code x code maxLocals ret :: tables_1) hat d (List.mem_cons_of_mem _ hd)
  have hfit : Fit s := fun {y c} hc i hi => by
    obtain ⟨ha, rfl⟩ := Array.getElem?_eq_some_iff.mp hc
    have q := List.all_eq_true.mp ((Array.all_eq_true_iff_forall_mem.mp hF) _ (Array.getElem_mem ha)) i (List.mem_range.mpr hi)
    simpa [Array.getElem?_eq_getElem hi] using q
  obtain ⟨i0, ei0⟩ := is_v g2
  obtain rfl : w0 = (.int i0) := Option.some.inj ei0
  obtain ⟨nq0, nr0⟩ := and_e hn
  obtain ⟨nq1, nr1⟩ := and_e nr0
  obtain ⟨nq2, nr2⟩ := and_e nr1
  obtain ⟨nq3, nr3⟩ := and_e nr2
  obtain ⟨nq4, nr4⟩ := and_e nr3
  obtain ⟨nq5, nr5⟩ := and_e nr4
  obtain ⟨nq6, nr6⟩ := and_e nr5
  obtain ⟨nq7, nr7⟩ := and_e nr6
  obtain ⟨nq8, nr8⟩ := and_e nr7
  obtain ⟨nq9, nr9⟩ := and_e nr8
  obtain ⟨nq10, nr10⟩ := and_e nr9
  obtain ⟨nq11, nr11⟩ := and_e nr10
  obtain ⟨nq12, nr12⟩ := and_e nr11
  obtain ⟨nq13, nr13⟩ := and_e nr12
  obtain ⟨nq14, nr14⟩ := and_e nr13
  obtain ⟨nq15, nr15⟩ := and_e nr14
  obtain ⟨nq16, nr16⟩ := and_e nr15
  obtain ⟨nq17, nr17⟩ := and_e nr16
  obtain ⟨nq18, nr18⟩ := and_e nr17
  obtain ⟨nq19, nr19⟩ := and_e nr18
  obtain ⟨nq20, nr20⟩ := and_e nr19
  obtain ⟨nq21, nr21⟩ := and_e nr20
  obtain ⟨nq22, nr22⟩ := and_e nr21
  obtain ⟨nq23, nr23⟩ := and_e nr22
  obtain ⟨nq24, nr24⟩ := and_e nr23
  obtain ⟨nq25, nr25⟩ := and_e nr24
  obtain ⟨nq26, nr26⟩ := and_e nr25
  obtain ⟨nq27, nr27⟩ := and_e nr26
  obtain ⟨nq28, nr28⟩ := and_e nr27
  obtain ⟨nq29, nr29⟩ := and_e nr28
  obtain ⟨nq30, nr30⟩ := and_e nr29
  obtain ⟨nq31, nr31⟩ := and_e nr30
  obtain ⟨nq32, nr32⟩ := and_e nr31
  obtain ⟨nq33, nr33⟩ := and_e nr32
  obtain ⟨nq34, nr34⟩ := and_e nr33
  obtain ⟨nq35, nr35⟩ := and_e nr34
  obtain ⟨nq36, nr36⟩ := and_e nr35
  obtain ⟨nq37, nr37⟩ := and_e nr36
  obtain ⟨nq38, nr38⟩ := and_e nr37
  obtain ⟨nq39, nr39⟩ := and_e nr38
  obtain ⟨nq40, nr40⟩ := and_e nr39
  obtain ⟨nq41, nr41⟩ := and_e nr40
  obtain ⟨nq42, nr42⟩ := and_e nr41
  obtain ⟨nq43, nr43⟩ := and_e nr42
  obtain ⟨nq44, nr44⟩ := and_e nr43
  obtain ⟨nq45, nr45⟩ := and_e nr44
  obtain ⟨nq46, nr46⟩ := and_e nr45
  obtain ⟨nq47, nr47⟩ := and_e nr46
  obtain ⟨nq48, nr48⟩ := and_e nr47
  obtain ⟨nq49, nr49⟩ := and_e nr48
  obtain ⟨nq50, nr50⟩ := and_e nr49
  obtain ⟨nq51, nr51⟩ := and_e nr50
  obtain ⟨nq52, nr52⟩ := and_e nr51
  obtain ⟨a_TRUE, ev_TRUE⟩ := exa_v nq0
  have E_TRUE := Exa.start ev_TRUE nq0
  have S_TRUE := Sta.start ev_TRUE (Or.inr ⟨(own_w hw 3 rfl), (own_w hw 4 rfl)⟩)
  obtain ⟨a_FALSE, ev_FALSE⟩ := exa_v nq1
  have E_FALSE := Exa.start ev_FALSE nq1
  have S_FALSE := Sta.start ev_FALSE (Or.inr ⟨(own_w hw 3 rfl), (own_w hw 7 rfl)⟩)
  obtain ⟨a_ATOM, ev_ATOM⟩ := exa_v nq2
  have E_ATOM := Exa.start ev_ATOM nq2
  have S_ATOM := Sta.start ev_ATOM (Or.inr ⟨(own_w hw 3 rfl), (own_w hw 9 rfl)⟩)
  obtain ⟨a_NOT, ev_NOT⟩ := exa_v nq3
  have E_NOT := Exa.start ev_NOT nq3
  have S_NOT := Sta.start ev_NOT (Or.inr ⟨(own_w hw 3 rfl), (own_w hw 11 rfl)⟩)
  obtain ⟨a_EX, ev_EX⟩ := exa_v nq4
  have E_EX := Exa.start ev_EX nq4
  have S_EX := Sta.start ev_EX (Or.inr ⟨(own_w hw 3 rfl), (own_w hw 13 rfl)⟩)
  obtain ⟨a_AX, ev_AX⟩ := exa_v nq5
  have E_AX := Exa.start ev_AX nq5
  have S_AX := Sta.start ev_AX (Or.inr ⟨(own_w hw 3 rfl), (own_w hw 15 rfl)⟩)
  obtain ⟨a_EF, ev_EF⟩ := exa_v nq6
  have E_EF := Exa.start ev_EF nq6
  have S_EF := Sta.start ev_EF (Or.inr ⟨(own_w hw 3 rfl), (own_w hw 17 rfl)⟩)
  obtain ⟨a_AF, ev_AF⟩ := exa_v nq7
  have E_AF := Exa.start ev_AF nq7
  have S_AF := Sta.start ev_AF (Or.inr ⟨(own_w hw 3 rfl), (own_w hw 19 rfl)⟩)
  obtain ⟨a_EG, ev_EG⟩ := exa_v nq8
  have E_EG := Exa.start ev_EG nq8
  have S_EG := Sta.start ev_EG (Or.inr ⟨(own_w hw 3 rfl), (own_w hw 21 rfl)⟩)
  obtain ⟨a_AG, ev_AG⟩ := exa_v nq9
  have E_AG := Exa.start ev_AG nq9
  have S_AG := Sta.start ev_AG (Or.inr ⟨(own_w hw 3 rfl), (own_w hw 23 rfl)⟩)
  obtain ⟨a_AND, ev_AND⟩ := exa_v nq10
  have E_AND := Exa.start ev_AND nq10
  have S_AND := Sta.start ev_AND (Or.inr ⟨(own_w hw 3 rfl), (own_w hw 25 rfl)⟩)
  obtain ⟨a_OR, ev_OR⟩ := exa_v nq11
  have E_OR := Exa.start ev_OR nq11
  have S_OR := Sta.start ev_OR (Or.inr ⟨(own_w hw 3 rfl), (own_w hw 27 rfl)⟩)
  obtain ⟨a_IFF, ev_IFF⟩ := exa_v nq12
  have E_IFF := Exa.start ev_IFF nq12
  have S_IFF := Sta.start ev_IFF (Or.inr ⟨(own_w hw 3 rfl), (own_w hw 29 rfl)⟩)
  obtain ⟨a_IMPLIES, ev_IMPLIES⟩ := exa_v nq13
  have E_IMPLIES := Exa.start ev_IMPLIES nq13
  have S_IMPLIES := Sta.start ev_IMPLIES (Or.inr ⟨(own_w hw 3 rfl), (own_w hw 31 rfl)⟩)
  obtain ⟨a_EU, ev_EU⟩ := exa_v nq14
  have E_EU := Exa.start ev_EU nq14
  have S_EU := Sta.start ev_EU (Or.inr ⟨(own_w hw 3 rfl), (own_w hw 33 rfl)⟩)
  obtain ⟨a_AU, ev_AU⟩ := exa_v nq15
  have E_AU := Exa.start ev_AU nq15
  have S_AU := Sta.start ev_AU (Or.inr ⟨(own_w hw 3 rfl), (own_w hw 35 rfl)⟩)
  obtain ⟨a_ER, ev_ER⟩ := exa_v nq16
  have E_ER := Exa.start ev_ER nq16
  have S_ER := Sta.start ev_ER (Or.inr ⟨(own_w hw 3 rfl), (own_w hw 37 rfl)⟩)
  obtain ⟨a_AR, ev_AR⟩ := exa_v nq17
  have E_AR := Exa.start ev_AR nq17
  have S_AR := Sta.start ev_AR (Or.inr ⟨(own_w hw 3 rfl), (own_w hw 39 rfl)⟩)
  have F_TRUE_arity := own_fld ev_TRUE (own_eqI nq18)
  have F_NOT_arity := own_fld ev_NOT (own_eqI nq19)
  have F_ATOM_arity := own_fld ev_ATOM (own_eqI nq20)
  have F_FALSE_arity := own_fld ev_FALSE (own_eqI nq21)
  have F_AF_arity := own_fld ev_AF (own_eqI nq22)
  have F_OR_arity := own_fld ev_OR (own_eqI nq23)
  have F_OR_quantifier := own_fld ev_OR (null_v nq24)
  have F_EX_arity := own_fld ev_EX (own_eqI nq25)
  have F_EG_arity := own_fld ev_EG (own_eqI nq26)
  have F_IFF_arity := own_fld ev_IFF (own_eqI nq27)
  have F_IFF_quantifier := own_fld ev_IFF (null_v nq28)
  have F_ER_arity := own_fld ev_ER (own_eqI nq29)
  obtain ⟨b_ER_quantifier, ef_ER_quantifier⟩ := exa_v nq30
  have F_ER_quantifier := own_fld ev_ER ef_ER_quantifier
  have F_AU_arity := own_fld ev_AU (own_eqI nq31)
  obtain ⟨b_AU_quantifier, ef_AU_quantifier⟩ := exa_v nq32
  have F_AU_quantifier := own_fld ev_AU ef_AU_quantifier
  have F_AND_arity := own_fld ev_AND (own_eqI nq33)
  have F_AND_quantifier := own_fld ev_AND (null_v nq34)
  have F_IMPLIES_arity := own_fld ev_IMPLIES (own_eqI nq35)
  have F_IMPLIES_quantifier := own_fld ev_IMPLIES (null_v nq36)
  have F_EF_arity := own_fld ev_EF (own_eqI nq37)
  have F_AR_arity := own_fld ev_AR (own_eqI nq38)
  have F_EU_arity := own_fld ev_EU (own_eqI nq40)
  have F_AX_arity := own_fld ev_AX (own_eqI nq42)
  have F_AG_arity := own_fld ev_AG (own_eqI nq43)
  have F_TRUE_quantifier := own_fld ev_TRUE (null_v nq44)
  have F_FALSE_quantifier := own_fld ev_FALSE (null_v nq45)
  have F_ATOM_quantifier := own_fld ev_ATOM (null_v nq46)
  have F_NOT_quantifier := own_fld ev_NOT (null_v nq47)
  have F_EX_quantifier := own_fld ev_EX (null_v nq48)
  have F_AX_quantifier := own_fld ev_AX (null_v nq49)
  have F_EF_quantifier := own_fld ev_EF (null_v nq50)
  have F_AF_quantifier := own_fld ev_AF (null_v nq51)
  have F_EG_quantifier := own_fld ev_EG (null_v nq52)
  have F_AG_quantifier := own_fld ev_AG (null_v nr52)
  have F_AR_quantifier := own_fld ev_AR (own_eqR ef_AU_quantifier nq39)
  have F_EU_quantifier := own_fld ev_EU (own_eqR ef_ER_quantifier nq41)
  obtain ⟨n, o, h1, h2, h3, _, L, rfl, ⟨rfl, N⟩, hq⟩ := rm0 l s _ hw tables_1 i0 a_TRUE a_FALSE a_ATOM a_NOT a_EX a_AX a_EF a_AF a_EG a_AG a_AND a_OR a_IFF a_IMPLIES a_EU a_AU a_ER a_AR b_ER_quantifier b_AU_quantifier s.heap s.heap.size (Nat.le_refl _) (Old.start s) S_TRUE E_TRUE S_FALSE E_FALSE S_ATOM E_ATOM S_NOT E_NOT S_EX E_EX S_AX E_AX S_EF E_EF S_AF E_AF S_EG E_EG S_AG E_AG S_AND E_AND S_OR E_OR S_IFF E_IFF S_IMPLIES E_IMPLIES S_EU E_EU S_AU E_AU S_ER E_ER S_AR E_AR F_TRUE_arity F_NOT_arity F_ATOM_arity F_FALSE_arity F_AF_arity F_OR_arity F_OR_quantifier F_EX_arity F_EG_arity F_IFF_arity F_IFF_quantifier F_ER_arity F_ER_quantifier F_AU_arity F_AU_quantifier F_AND_arity F_AND_quantifier F_IMPLIES_arity F_IMPLIES_quantifier F_EF_arity F_AR_arity F_EU_arity F_AX_arity F_AG_arity F_TRUE_quantifier F_FALSE_quantifier F_ATOM_quantifier F_NOT_quantifier F_EX_quantifier F_AX_quantifier F_EF_quantifier F_AF_quantifier F_EG_quantifier F_AG_quantifier F_AR_quantifier F_EU_quantifier p e ha hc hk s m _ below hf ((Spec.applies_iff_loose hf).mp happ).1 ⟨rfl, State.Warmed39.refl s, rfl⟩ trivial
  refine ⟨n, _, h1, h2, h3, hpost _ _ _ _ _ _ ⟨Cond.after_iff.mpr rfl, Cond.after_iff.mpr (eq_i res_at (Term.int_eval (1)) rfl), trivial⟩ ⟨hq.1, hq.2.1, (hq.2.2.sift fun y hy => Or.inr (N y hy)).mono (by decide) (by decide)⟩⟩
theorem main_1_1 : Claimed_1_1 := comes_1 fun _ _ _ _ _ _ h hF => ⟨h.1, hF⟩
theorem main_1_2 : Claimed_1_2 := comes_1 fun _ _ _ _ _ _ h hF => ⟨h.2.1, hF⟩
end Jvm.Pilot.@@N@@
namespace Jvm.Pilot.@@N@@
open Jvm Jvm.ClassFile Sem Op Lib Jvm.Free Jvm.Stand Jvm.Pilot.@@N@@.Jvm.D
/-! MADE BY PROGRAM (witnessworld.py) out of the Statement's table words and the real class files: 16 classes; the members and pool entries that the words name. The judged class is class 1, her method 1. -/
namespace start1
open Jvm.ClassFile
def u (s : String) : CpInfo := .utf8 (stringToUtf16 s)
/-- a pool by its gaps: so many unusable entries, then the entry; so many at the end -/
def gap : Nat → List CpInfo → List CpInfo
  | 0, r => r
  | n + 1, r => .unusable :: gap n r
def poolList (es : List (Nat × CpInfo)) (last : Nat) : List CpInfo := es.foldr (fun e r => gap e.1 (e.2 :: r)) (gap last [])
def pool (es : List (Nat × CpInfo)) (last : Nat) : Array CpInfo := ⟨poolList es last⟩
def fileOf (pool : Array CpInfo) (this : Nat) (attrs : Array Attribute := #[]) (ms : Array MethodInfo := #[]) (fl : Nat := 33) (sup : Nat := 0) (ifs : Array Nat := #[]) (fds : Array FieldInfo := #[]) : ClassFile where
  minorVersion := 0
  majorVersion := 65
  constantPool := pool
  accessFlags := fl
  thisClass := this
  superClass := sup
  interfaces := ifs
  fields := fds
  methods := ms
  attributes := attrs
def plain (name : String) (sup : Option ClassId) : Class where
  name := name
  kind := .ordinary
  loader := none
  accessFlags := 33
  super := sup
  interfaces := #[]
  cf := none
  fields := #[]
  methods := #[]
  instanceTypes := #[]
  staticTypes := #[]
  resolved := #[]
  callSites := []
  init := .initialized
  statics := none
  mirror := none

def pool0 : Array CpInfo := pool [(5, u "<init>"), (0, u "()V"), (1, .class_ 10), (1, u "java/lang/Object")] 113

def k0m0 : Method := { name := "<init>", desc := "()V", sig := { parameters := [], returnType := none }, accessFlags := 1, code := none }
/-- java/lang/Object -/
def k0 : Class := { plain "java/lang/Object" none with
  accessFlags := 33
  interfaces := #[]
  cf := some (fileOf pool0 8 #[] #[{ accessFlags := 1, nameIndex := 5, descriptorIndex := 6, attributes := #[] }] 33 0 #[] #[])
  fields := #[]
  methods := #[k0m0]
  instanceTypes := #[]
  staticTypes := #[]
  resolved := Array.replicate 124 none
  statics := none }

def pool1 : Array CpInfo := pool [(2, .class_ 4), (1, u "java/lang/Object"), (0, u "<init>"), (0, u "()V"), (0, .class_ 8), (0, u "com/example/forking_paths/forkingpaths/model/Formula$Kind"), (0, .fieldref 7 10), (0, .nameAndType 11 12), (0, u "TRUE"), (0, u "Lcom/example/forking_paths/forkingpaths/model/Formula$Kind;"), (0, .fieldref 7 14), (0, .nameAndType 15 12), (0, u "FALSE"), (0, .fieldref 7 17), (0, .nameAndType 18 12), (0, u "ATOM"), (0, .fieldref 7 20), (0, .nameAndType 21 12), (0, u "NOT"), (0, .fieldref 7 23), (0, .nameAndType 24 12), (0, u "EX"), (0, .fieldref 7 26), (0, .nameAndType 27 12), (0, u "AX"), (0, .fieldref 7 29), (0, .nameAndType 30 12), (0, u "EF"), (0, .fieldref 7 32), (0, .nameAndType 33 12), (0, u "AF"), (0, .fieldref 7 35), (0, .nameAndType 36 12), (0, u "EG"), (0, .fieldref 7 38), (0, .nameAndType 39 12), (0, u "AG"), (0, .fieldref 7 41), (0, .nameAndType 42 12), (0, u "AND"), (0, .fieldref 7 44), (0, .nameAndType 45 12), (0, u "OR"), (0, .fieldref 7 47), (0, .nameAndType 48 12), (0, u "IFF"), (0, .fieldref 7 50), (0, .nameAndType 51 12), (0, u "IMPLIES"), (0, .fieldref 7 53), (0, .nameAndType 54 12), (0, u "EU"), (0, .fieldref 7 56), (0, .nameAndType 57 12), (0, u "AU"), (0, .fieldref 7 59), (0, .nameAndType 60 12), (0, u "ER"), (0, .fieldref 7 62), (0, .nameAndType 63 12), (0, u "AR"), (0, .integer 2147483647), (0, .methodref 7 66), (0, .nameAndType 67 68), (0, u "isInfix"), (0, u "()Z"), (0, .class_ 70), (0, u "com/example/forking_paths/forkingpaths/model/KindIsInfixPinLaw"), (2, u "law"), (0, u "(I)Z")] 9

def k1m0 : Method := { name := "<init>", desc := "()V", sig := { parameters := [], returnType := none }, accessFlags := 2, code := none }
def k1c1 : Code := { maxStack := 4, maxLocals := 4, code := code, exceptionTable := #[], attributes := #[] }
def k1m1 : Method := { name := "law", desc := "(I)Z", sig := { parameters := [.int], returnType := some .boolean }, accessFlags := 9, code := some k1c1 }
/-- com/example/forking_paths/forkingpaths/model/KindIsInfixPinLaw -/
def k1 : Class := { plain "com/example/forking_paths/forkingpaths/model/KindIsInfixPinLaw" (some 0) with
  accessFlags := 49
  interfaces := #[]
  cf := some (fileOf pool1 69 #[] #[{ accessFlags := 2, nameIndex := 5, descriptorIndex := 6, attributes := #[] }, { accessFlags := 9, nameIndex := 73, descriptorIndex := 74, attributes := #[] }] 49 2 #[] #[])
  fields := #[]
  methods := #[k1m0, k1m1]
  instanceTypes := #[]
  staticTypes := #[]
  resolved := Array.replicate 84 none
  statics := none }

def pool2 : Array CpInfo := pool [(1, .class_ 2), (0, u "java/lang/constant/Constable"), (0, .class_ 4), (0, u "java/lang/Object")] 6

/-- java/lang/constant/Constable -/
def k2 : Class := { plain "java/lang/constant/Constable" (some 0) with
  accessFlags := 1537
  interfaces := #[]
  cf := some (fileOf pool2 1 #[] #[] 1537 3 #[] #[])
  fields := #[]
  methods := #[]
  instanceTypes := #[]
  staticTypes := #[]
  resolved := Array.replicate 11 none
  statics := none }

def pool3 : Array CpInfo := pool [(1, .class_ 2), (0, u "java/lang/Comparable"), (0, .class_ 4), (0, u "java/lang/Object")] 7

/-- java/lang/Comparable -/
def k3 : Class := { plain "java/lang/Comparable" (some 0) with
  accessFlags := 1537
  interfaces := #[]
  cf := some (fileOf pool3 1 #[] #[] 1537 3 #[] #[])
  fields := #[]
  methods := #[]
  instanceTypes := #[]
  staticTypes := #[]
  resolved := Array.replicate 12 none
  statics := none }

def pool4 : Array CpInfo := pool [(1, .class_ 2), (0, u "java/io/Serializable"), (0, .class_ 4), (0, u "java/lang/Object")] 2

/-- java/io/Serializable -/
def k4 : Class := { plain "java/io/Serializable" (some 0) with
  accessFlags := 1537
  interfaces := #[]
  cf := some (fileOf pool4 1 #[] #[] 1537 3 #[] #[])
  fields := #[]
  methods := #[]
  instanceTypes := #[]
  staticTypes := #[]
  resolved := Array.replicate 7 none
  statics := none }

def pool5 : Array CpInfo := pool [(2, .class_ 4), (1, u "java/lang/Enum"), (0, u "name"), (0, u "Ljava/lang/String;"), (2, u "ordinal"), (0, u "I"), (1, .class_ 14), (1, u "java/lang/Object"), (4, u "hash"), (86, .class_ 108), (1, u "java/lang/Enum$EnumDesc"), (2, .class_ 112), (0, u "java/lang/constant/Constable"), (0, .class_ 114), (0, u "java/lang/Comparable"), (0, .class_ 116), (0, u "java/io/Serializable")] 87

/-- java/lang/Enum -/
def k5 : Class := { plain "java/lang/Enum" (some 0) with
  accessFlags := 1057
  interfaces := #[2, 3, 4]
  cf := some (fileOf pool5 2 #[.nestMembers #[106]] #[] 1057 12 #[111, 113, 115] #[{ accessFlags := 18, nameIndex := 5, descriptorIndex := 6, attributes := #[] }, { accessFlags := 18, nameIndex := 9, descriptorIndex := 10, attributes := #[] }, { accessFlags := 2, nameIndex := 19, descriptorIndex := 10, attributes := #[] }])
  fields := #[{ name := "name", type := (.object "java/lang/String"), accessFlags := 18, slot := 0, constantValue := 0 }, { name := "ordinal", type := .int, accessFlags := 18, slot := 1, constantValue := 0 }, { name := "hash", type := .int, accessFlags := 2, slot := 2, constantValue := 0 }]
  methods := #[]
  instanceTypes := #[(.object "java/lang/String"), .int, .int]
  staticTypes := #[]
  resolved := Array.replicate 204 none
  statics := none }

def pool6 : Array CpInfo := pool [(1, .class_ 2), (0, u "com/example/forking_paths/forkingpaths/model/Formula$Kind"), (2, u "TRUE"), (0, u "Lcom/example/forking_paths/forkingpaths/model/Formula$Kind;"), (2, u "FALSE"), (2, u "ATOM"), (2, u "NOT"), (2, u "EX"), (2, u "AX"), (2, u "EF"), (2, u "AF"), (2, u "EG"), (2, u "AG"), (2, u "AND"), (2, u "OR"), (2, u "IFF"), (2, u "IMPLIES"), (2, u "EU"), (2, u "AU"), (2, u "ER"), (2, u "AR"), (2, u "$VALUES"), (0, u "[Lcom/example/forking_paths/forkingpaths/model/Formula$Kind;"), (6, .class_ 70), (1, u "java/lang/Enum"), (6, .fieldref 1 78), (0, .nameAndType 79 80), (0, u "arity"), (0, u "I"), (2, u "symbol"), (0, u "Ljava/lang/String;"), (0, .fieldref 1 86), (0, .nameAndType 87 84), (0, u "quantifier"), (52, u "isInfix"), (0, u "()Z"), (7, .class_ 150), (0, u "com/example/forking_paths/forkingpaths/model/Formula")] 2

def k6c0 : Code := { maxStack := 2, maxLocals := 1, code := prog_72_method_7_code, exceptionTable := #[], attributes := #[] }
def k6m0 : Method := { name := "isInfix", desc := "()Z", sig := { parameters := [], returnType := some .boolean }, accessFlags := 1, code := some k6c0 }
/-- com/example/forking_paths/forkingpaths/model/Formula$Kind -/
def k6 : Class := { plain "com/example/forking_paths/forkingpaths/model/Formula$Kind" (some 5) with
  accessFlags := 16433
  interfaces := #[]
  cf := some (fileOf pool6 1 #[.nestHost 149] #[{ accessFlags := 1, nameIndex := 140, descriptorIndex := 141, attributes := #[] }] 16433 68 #[] #[{ accessFlags := 16409, nameIndex := 5, descriptorIndex := 6, attributes := #[] }, { accessFlags := 16409, nameIndex := 9, descriptorIndex := 6, attributes := #[] }, { accessFlags := 16409, nameIndex := 12, descriptorIndex := 6, attributes := #[] }, { accessFlags := 16409, nameIndex := 15, descriptorIndex := 6, attributes := #[] }, { accessFlags := 16409, nameIndex := 18, descriptorIndex := 6, attributes := #[] }, { accessFlags := 16409, nameIndex := 21, descriptorIndex := 6, attributes := #[] }, { accessFlags := 16409, nameIndex := 24, descriptorIndex := 6, attributes := #[] }, { accessFlags := 16409, nameIndex := 27, descriptorIndex := 6, attributes := #[] }, { accessFlags := 16409, nameIndex := 30, descriptorIndex := 6, attributes := #[] }, { accessFlags := 16409, nameIndex := 33, descriptorIndex := 6, attributes := #[] }, { accessFlags := 16409, nameIndex := 36, descriptorIndex := 6, attributes := #[] }, { accessFlags := 16409, nameIndex := 39, descriptorIndex := 6, attributes := #[] }, { accessFlags := 16409, nameIndex := 42, descriptorIndex := 6, attributes := #[] }, { accessFlags := 16409, nameIndex := 45, descriptorIndex := 6, attributes := #[] }, { accessFlags := 16409, nameIndex := 48, descriptorIndex := 6, attributes := #[] }, { accessFlags := 16409, nameIndex := 51, descriptorIndex := 6, attributes := #[] }, { accessFlags := 16409, nameIndex := 54, descriptorIndex := 6, attributes := #[] }, { accessFlags := 16409, nameIndex := 57, descriptorIndex := 6, attributes := #[] }, { accessFlags := 18, nameIndex := 79, descriptorIndex := 80, attributes := #[] }, { accessFlags := 18, nameIndex := 83, descriptorIndex := 84, attributes := #[] }, { accessFlags := 18, nameIndex := 87, descriptorIndex := 84, attributes := #[] }, { accessFlags := 4122, nameIndex := 60, descriptorIndex := 61, attributes := #[] }])
  fields := #[{ name := "TRUE", type := (.object "com/example/forking_paths/forkingpaths/model/Formula$Kind"), accessFlags := 16409, slot := 0, constantValue := 0 }, { name := "FALSE", type := (.object "com/example/forking_paths/forkingpaths/model/Formula$Kind"), accessFlags := 16409, slot := 1, constantValue := 0 }, { name := "ATOM", type := (.object "com/example/forking_paths/forkingpaths/model/Formula$Kind"), accessFlags := 16409, slot := 2, constantValue := 0 }, { name := "NOT", type := (.object "com/example/forking_paths/forkingpaths/model/Formula$Kind"), accessFlags := 16409, slot := 3, constantValue := 0 }, { name := "EX", type := (.object "com/example/forking_paths/forkingpaths/model/Formula$Kind"), accessFlags := 16409, slot := 4, constantValue := 0 }, { name := "AX", type := (.object "com/example/forking_paths/forkingpaths/model/Formula$Kind"), accessFlags := 16409, slot := 5, constantValue := 0 }, { name := "EF", type := (.object "com/example/forking_paths/forkingpaths/model/Formula$Kind"), accessFlags := 16409, slot := 6, constantValue := 0 }, { name := "AF", type := (.object "com/example/forking_paths/forkingpaths/model/Formula$Kind"), accessFlags := 16409, slot := 7, constantValue := 0 }, { name := "EG", type := (.object "com/example/forking_paths/forkingpaths/model/Formula$Kind"), accessFlags := 16409, slot := 8, constantValue := 0 }, { name := "AG", type := (.object "com/example/forking_paths/forkingpaths/model/Formula$Kind"), accessFlags := 16409, slot := 9, constantValue := 0 }, { name := "AND", type := (.object "com/example/forking_paths/forkingpaths/model/Formula$Kind"), accessFlags := 16409, slot := 10, constantValue := 0 }, { name := "OR", type := (.object "com/example/forking_paths/forkingpaths/model/Formula$Kind"), accessFlags := 16409, slot := 11, constantValue := 0 }, { name := "IFF", type := (.object "com/example/forking_paths/forkingpaths/model/Formula$Kind"), accessFlags := 16409, slot := 12, constantValue := 0 }, { name := "IMPLIES", type := (.object "com/example/forking_paths/forkingpaths/model/Formula$Kind"), accessFlags := 16409, slot := 13, constantValue := 0 }, { name := "EU", type := (.object "com/example/forking_paths/forkingpaths/model/Formula$Kind"), accessFlags := 16409, slot := 14, constantValue := 0 }, { name := "AU", type := (.object "com/example/forking_paths/forkingpaths/model/Formula$Kind"), accessFlags := 16409, slot := 15, constantValue := 0 }, { name := "ER", type := (.object "com/example/forking_paths/forkingpaths/model/Formula$Kind"), accessFlags := 16409, slot := 16, constantValue := 0 }, { name := "AR", type := (.object "com/example/forking_paths/forkingpaths/model/Formula$Kind"), accessFlags := 16409, slot := 17, constantValue := 0 }, { name := "arity", type := .int, accessFlags := 18, slot := 3, constantValue := 0 }, { name := "symbol", type := (.object "java/lang/String"), accessFlags := 18, slot := 4, constantValue := 0 }, { name := "quantifier", type := (.object "java/lang/String"), accessFlags := 18, slot := 5, constantValue := 0 }, { name := "$VALUES", type := (.array (.object "com/example/forking_paths/forkingpaths/model/Formula$Kind")), accessFlags := 4122, slot := 18, constantValue := 0 }]
  methods := #[k6m0]
  instanceTypes := #[(.object "java/lang/String"), .int, .int, .int, (.object "java/lang/String"), (.object "java/lang/String")]
  staticTypes := #[(.object "com/example/forking_paths/forkingpaths/model/Formula$Kind"), (.object "com/example/forking_paths/forkingpaths/model/Formula$Kind"), (.object "com/example/forking_paths/forkingpaths/model/Formula$Kind"), (.object "com/example/forking_paths/forkingpaths/model/Formula$Kind"), (.object "com/example/forking_paths/forkingpaths/model/Formula$Kind"), (.object "com/example/forking_paths/forkingpaths/model/Formula$Kind"), (.object "com/example/forking_paths/forkingpaths/model/Formula$Kind"), (.object "com/example/forking_paths/forkingpaths/model/Formula$Kind"), (.object "com/example/forking_paths/forkingpaths/model/Formula$Kind"), (.object "com/example/forking_paths/forkingpaths/model/Formula$Kind"), (.object "com/example/forking_paths/forkingpaths/model/Formula$Kind"), (.object "com/example/forking_paths/forkingpaths/model/Formula$Kind"), (.object "com/example/forking_paths/forkingpaths/model/Formula$Kind"), (.object "com/example/forking_paths/forkingpaths/model/Formula$Kind"), (.object "com/example/forking_paths/forkingpaths/model/Formula$Kind"), (.object "com/example/forking_paths/forkingpaths/model/Formula$Kind"), (.object "com/example/forking_paths/forkingpaths/model/Formula$Kind"), (.object "com/example/forking_paths/forkingpaths/model/Formula$Kind"), (.array (.object "com/example/forking_paths/forkingpaths/model/Formula$Kind"))]
  resolved := Array.replicate 153 none
  statics := some 0 }

def pool7 : Array CpInfo := pool [(2, .class_ 4), (1, u "java/lang/CharSequence"), (42, .class_ 48), (0, u "java/lang/CharSequence$1CodePointIterator"), (10, .class_ 60), (0, u "java/lang/CharSequence$1CharIterator"), (5, .class_ 67), (0, u "java/lang/Object")] 63

/-- java/lang/CharSequence -/
def k7 : Class := { plain "java/lang/CharSequence" (some 0) with
  accessFlags := 1537
  interfaces := #[]
  cf := some (fileOf pool7 2 #[.nestMembers #[47, 59]] #[] 1537 66 #[] #[])
  fields := #[]
  methods := #[]
  instanceTypes := #[]
  staticTypes := #[]
  resolved := Array.replicate 131 none
  statics := none }

def pool8 : Array CpInfo := pool [(1, .class_ 2), (0, u "java/lang/constant/ConstantDesc"), (0, .class_ 4), (0, u "java/lang/Object")] 32

/-- java/lang/constant/ConstantDesc -/
def k8 : Class := { plain "java/lang/constant/ConstantDesc" (some 0) with
  accessFlags := 1537
  interfaces := #[]
  cf := some (fileOf pool8 1 #[] #[] 1537 3 #[] #[])
  fields := #[]
  methods := #[]
  instanceTypes := #[]
  staticTypes := #[]
  resolved := Array.replicate 37 none
  statics := none }

def pool9 : Array CpInfo := pool [(2, .class_ 4), (1, u "java/lang/Object"), (0, u "<init>"), (0, u "()V"), (3, .class_ 12), (1, u "java/lang/String"), (0, u "value"), (0, u "[B"), (2, u "coder"), (0, u "B"), (2, u "hash"), (0, u "I"), (2, u "hashIsZero"), (0, u "Z"), (13, u "COMPACT_STRINGS"), (534, .class_ 576), (0, u "java/lang/CharSequence"), (22, u "CASE_INSENSITIVE_ORDER"), (0, u "Ljava/util/Comparator;"), (500, u "serialPersistentFields"), (0, u "[Ljava/io/ObjectStreamField;"), (0, .class_ 1104), (0, u "java/lang/String$CaseInsensitiveComparator"), (1, .class_ 1107), (0, u "java/io/Serializable"), (0, .class_ 1109), (0, u "java/lang/Comparable"), (0, .class_ 1111), (0, u "java/lang/constant/Constable"), (0, .class_ 1113), (0, u "java/lang/constant/ConstantDesc"), (2, u "serialVersionUID"), (0, u "J"), (3, u "REPL"), (0, u "C"), (2, u "LATIN1"), (1, u "UTF16")] 323

def k9m0 : Method := { name := "<init>", desc := "()V", sig := { parameters := [], returnType := none }, accessFlags := 1, code := none }
/-- java/lang/String -/
def k9 : Class := { plain "java/lang/String" (some 0) with
  accessFlags := 49
  interfaces := #[4, 3, 7, 2, 8]
  cf := some (fileOf pool9 10 #[.nestMembers #[1103]] #[{ accessFlags := 1, nameIndex := 5, descriptorIndex := 6, attributes := #[] }] 49 2 #[1106, 1108, 575, 1110, 1112] #[{ accessFlags := 18, nameIndex := 13, descriptorIndex := 14, attributes := #[] }, { accessFlags := 18, nameIndex := 17, descriptorIndex := 18, attributes := #[] }, { accessFlags := 2, nameIndex := 21, descriptorIndex := 22, attributes := #[] }, { accessFlags := 2, nameIndex := 25, descriptorIndex := 26, attributes := #[] }, { accessFlags := 26, nameIndex := 1116, descriptorIndex := 1117, attributes := #[] }, { accessFlags := 24, nameIndex := 40, descriptorIndex := 26, attributes := #[] }, { accessFlags := 26, nameIndex := 1101, descriptorIndex := 1102, attributes := #[] }, { accessFlags := 26, nameIndex := 1121, descriptorIndex := 1122, attributes := #[] }, { accessFlags := 25, nameIndex := 599, descriptorIndex := 600, attributes := #[] }, { accessFlags := 24, nameIndex := 1125, descriptorIndex := 18, attributes := #[] }, { accessFlags := 24, nameIndex := 1127, descriptorIndex := 18, attributes := #[] }])
  fields := #[{ name := "value", type := (.array .byte), accessFlags := 18, slot := 0, constantValue := 0 }, { name := "coder", type := .byte, accessFlags := 18, slot := 1, constantValue := 0 }, { name := "hash", type := .int, accessFlags := 2, slot := 2, constantValue := 0 }, { name := "hashIsZero", type := .boolean, accessFlags := 2, slot := 3, constantValue := 0 }, { name := "serialVersionUID", type := .long, accessFlags := 26, slot := 0, constantValue := 0 }, { name := "COMPACT_STRINGS", type := .boolean, accessFlags := 24, slot := 1, constantValue := 0 }, { name := "serialPersistentFields", type := (.array (.object "java/io/ObjectStreamField")), accessFlags := 26, slot := 2, constantValue := 0 }, { name := "REPL", type := .char, accessFlags := 26, slot := 3, constantValue := 0 }, { name := "CASE_INSENSITIVE_ORDER", type := (.object "java/util/Comparator"), accessFlags := 25, slot := 4, constantValue := 0 }, { name := "LATIN1", type := .byte, accessFlags := 24, slot := 5, constantValue := 0 }, { name := "UTF16", type := .byte, accessFlags := 24, slot := 6, constantValue := 0 }]
  methods := #[k9m0]
  instanceTypes := #[(.array .byte), .byte, .int, .boolean]
  staticTypes := #[.long, .boolean, (.array (.object "java/io/ObjectStreamField")), .char, (.object "java/util/Comparator"), .byte, .byte]
  resolved := Array.replicate 1451 none
  statics := none }

def pool10 : Array CpInfo := pool [(1, u "java/lang/Cloneable"), (0, .class_ 1), (0, u "java/lang/Object"), (0, .class_ 3)] 3

/-- java/lang/Cloneable -/
def k10 : Class := { plain "java/lang/Cloneable" (some 0) with
  accessFlags := 1537
  interfaces := #[]
  cf := some (fileOf pool10 2 #[] #[] 1537 4 #[] #[])
  fields := #[]
  methods := #[]
  instanceTypes := #[]
  staticTypes := #[]
  resolved := Array.replicate 8 none
  statics := none }

/-- the primitive byte -/
def k11 : Class := { plain "byte" none with kind := .primitive 'B', accessFlags := 0x411 }
/-- [B -/
def k12 : Class := { plain "[B" (some 0) with kind := .array 11 .byte, interfaces := #[10, 4], accessFlags := 1041 }

/-- the primitive int -/
def k13 : Class := { plain "int" none with kind := .primitive 'I', accessFlags := 0x411 }
/-- [I -/
def k14 : Class := { plain "[I" (some 0) with kind := .array 13 .int, interfaces := #[10, 4], accessFlags := 1041 }

/-- [Lcom/example/forking_paths/forkingpaths/model/Formula$Kind; -/
def k15 : Class := { plain "[Lcom/example/forking_paths/forkingpaths/model/Formula$Kind;" (some 0) with kind := .array 6 (.object "com/example/forking_paths/forkingpaths/model/Formula$Kind"), interfaces := #[10, 4], accessFlags := 1041 }

def heap : Heap := #[{ cls := 6, slots := #[.ref 3, .ref 4, .ref 5, .ref 6, .ref 7, .ref 8, .ref 9, .ref 10, .ref 11, .ref 12, .ref 13, .ref 14, .ref 15, .ref 16, .ref 17, .ref 18, .ref 19, .ref 20, .null], vm := .statics 6 },
  { cls := 9, slots := #[.null, .int 0, .int 0, .int 0], vm := .none },
  { cls := 9, slots := #[.null, .int 0, .int 0, .int 0], vm := .none },
  { cls := 6, slots := #[.null, .int 0, .int 0, .int 0, .null, .null], vm := .none },
  { cls := 6, slots := #[.null, .int 0, .int 0, .int 0, .null, .null], vm := .none },
  { cls := 6, slots := #[.null, .int 0, .int 0, .int 0, .null, .null], vm := .none },
  { cls := 6, slots := #[.null, .int 0, .int 0, .int 1, .null, .null], vm := .none },
  { cls := 6, slots := #[.null, .int 0, .int 0, .int 1, .null, .null], vm := .none },
  { cls := 6, slots := #[.null, .int 0, .int 0, .int 1, .null, .null], vm := .none },
  { cls := 6, slots := #[.null, .int 0, .int 0, .int 1, .null, .null], vm := .none },
  { cls := 6, slots := #[.null, .int 0, .int 0, .int 1, .null, .null], vm := .none },
  { cls := 6, slots := #[.null, .int 0, .int 0, .int 1, .null, .null], vm := .none },
  { cls := 6, slots := #[.null, .int 0, .int 0, .int 1, .null, .null], vm := .none },
  { cls := 6, slots := #[.null, .int 0, .int 0, .int 2, .null, .null], vm := .none },
  { cls := 6, slots := #[.null, .int 0, .int 0, .int 2, .null, .null], vm := .none },
  { cls := 6, slots := #[.null, .int 0, .int 0, .int 2, .null, .null], vm := .none },
  { cls := 6, slots := #[.null, .int 0, .int 0, .int 2, .null, .null], vm := .none },
  { cls := 6, slots := #[.null, .int 0, .int 0, .int 2, .null, .ref 1], vm := .none },
  { cls := 6, slots := #[.null, .int 0, .int 0, .int 2, .null, .ref 2], vm := .none },
  { cls := 6, slots := #[.null, .int 0, .int 0, .int 2, .null, .ref 1], vm := .none },
  { cls := 6, slots := #[.null, .int 0, .int 0, .int 2, .null, .ref 2], vm := .none }]
def classes : Array Class := #[k0, k1, k2, k3, k4, k5, k6, k7, k8, k9, k10, k11, k12, k13, k14, k15]
def interned : List (Array UInt16 × Addr) := []
def slotsUsed : Nat := 135
def theMethod : MethodId := ⟨1, 1⟩
def args0 : Array Value := #[.int 5]
def aboutOver (below : List Frame) : State where
  vm := { classes := classes, interned := interned.toArray }
  heap := heap
  slotsUsed := slotsUsed
  threads := #[{ frames := .invoking theMethod args0 :: below }]
def below0 : List Frame := [.native { method := ⟨0, 0⟩, args := #[] }]
def about1 : State := aboutOver below0
def p0 : Program := .bare "" "" ""
def e0 : Env := launch0.env 0 0 0
theorem w_frames : about1.frames = Frame.invoking theMethod args0 :: below0 := rfl
set_option maxRecDepth 65536 in
theorem w_args : argsFit about1.vm theMethod args0 = true := by decide +kernel
set_option maxRecDepth 65536 in
theorem w_heap : heapFits about1 = true := by decide +kernel
set_option maxRecDepth 65536 in
theorem w_runnable : about1.curStatus? = some .runnable := by decide +kernel
set_option maxRecDepth 65536 in
theorem w_alone : about1.alone = true := by decide +kernel
set_option maxRecDepth 65536 in
theorem w_named : about1.methodNamed? x = some theMethod := by decide +kernel
set_option maxRecDepth 65536 in
theorem w_hears : about1.hears theMethod below0 = true := by decide +kernel
set_option maxRecDepth 65536 in
theorem w_ripe : about1.ripe theMethod args0 below0 = true := by decide +kernel
theorem w_running : about1.status = .running := rfl
set_option maxRecDepth 65536 in
theorem w_room : about1.hasRoom e0.platform room_1 = true :=
  launch0.hasRoom_least _ room_1 (by decide +kernel) (by decide +kernel) (by decide +kernel) (by decide +kernel) (by decide +kernel) (by decide +kernel)
theorem allAtoms_all (ts : List Jvm.Cond) (a : Array Jvm.Value) (st : Jvm.State) : (allAtoms ts).before a st = ts.all (fun c => c.before a st) := by
  induction ts with
  | nil => rfl
  | cons c t ih =>
    show (Jvm.Cond.and c (allAtoms t)).before a st = _
    rw [Jvm.Cond.before_and, ih, List.all_cons]
def words1 : List Jvm.Cond := Jvm.Cond.code x code maxLocals ret :: tables_1
/-- a 'code' word, met by the world's own term for the bytes: nothing is compared byte by byte -/
theorem code_word {y : MethodName} {bytes : ByteArray} {mx : Nat} {rt : Option FieldType} {a : Array Value} {s : State} {m : MethodId} {meth : Method} {c : Code} (h1 : s.methodNamed? y = some m) (h2 : s.vm.method? m = some meth) (h3 : meth.code = some c) (h4 : c.code = bytes)
    (h5 : (c.maxLocals == mx && c.exceptionTable.isEmpty && decide (c.maxStack ≤ mostOperands) && decide (meth.sig.returnType = rt) && !meth.locks && decide (parseMethodDescriptor y.desc = some meth.sig)) = true) : (Jvm.Cond.code y bytes mx rt).before a s = true := by
  simp only [Bool.and_eq_true, beq_iff_eq, Bool.not_eq_true', decide_eq_true_eq] at h5
  obtain ⟨⟨⟨⟨⟨g1, g2⟩, g3⟩, g4⟩, g5⟩, g6⟩ := h5
  simp [Cond.before, Cond.holds, Cond.value, h1, h2, h3, h4, g1, g2, g3, g4, g5, g6]
def isCode : Jvm.Cond → Bool
  | .code _ _ _ _ => true
  | _ => false
theorem all_split {L : List Jvm.Cond} {P : Jvm.Cond → Bool} (h1 : L.all (fun c => isCode c || P c) = true) (h2 : ∀ c ∈ L.filter isCode, P c = true) : L.all P = true := by
  refine List.all_eq_true.mpr fun c hc => ?_
  have h := List.all_eq_true.mp h1 c hc
  rcases Bool.eq_false_or_eq_true (isCode c) with hi | hi
  · exact h2 c (List.mem_filter.mpr ⟨hc, hi⟩)
  · simpa [hi] using h
set_option maxRecDepth 65536 in
theorem w_c0 : (Jvm.Cond.code x code maxLocals ret).before args0 about1 = true := code_word (m := ⟨1, 1⟩) (meth := k1m1) (c := k1c1) (by decide +kernel) rfl rfl rfl (by decide +kernel)
set_option maxRecDepth 65536 in
theorem w_c1 : (Jvm.Cond.code ({ cls := "com/example/forking_paths/forkingpaths/model/Formula$Kind", name := "isInfix", desc := "()Z" } : Jvm.MethodName) prog_72_method_7_code (1 : Nat) (Option.some Jvm.ClassFile.FieldType.boolean)).before args0 about1 = true := code_word (m := ⟨6, 0⟩) (meth := k6m0) (c := k6c0) (by decide +kernel) rfl rfl rfl (by decide +kernel)
def codes1 : List Jvm.Cond := [Jvm.Cond.code x code maxLocals ret, Jvm.Cond.code ({ cls := "com/example/forking_paths/forkingpaths/model/Formula$Kind", name := "isInfix", desc := "()Z" } : Jvm.MethodName) prog_72_method_7_code (1 : Nat) (Option.some Jvm.ClassFile.FieldType.boolean)]
set_option maxRecDepth 65536 in
theorem codes_eq : words1.filter isCode = codes1 := rfl
theorem w_codes : ∀ c ∈ words1.filter isCode, c.before args0 about1 = true := by
  rw [codes_eq]
  intro c hc
  simp only [codes1, List.mem_cons, List.not_mem_nil, or_false] at hc
  rcases hc with rfl | rfl
  · exact w_c0
  · exact w_c1
set_option maxRecDepth 65536 in
theorem w_t1 : (words1.take 24).all (fun c => isCode c || c.before args0 about1) = true := by decide +kernel
set_option maxRecDepth 65536 in
theorem w_t2 : ((words1.drop 24).take 24).all (fun c => isCode c || c.before args0 about1) = true := by decide +kernel
set_option maxRecDepth 65536 in
theorem w_t3 : ((words1.drop 24).drop 24).all (fun c => isCode c || c.before args0 about1) = true := by decide +kernel
theorem w_tables : (allAtoms (Jvm.Cond.code x code maxLocals ret :: tables_1)).before args0 about1 = true := by
  rw [allAtoms_all]
  show words1.all (fun c => c.before args0 about1) = true
  refine all_split ?_ w_codes
  rw [← List.take_append_drop 24 words1, List.all_append, w_t1, ← List.take_append_drop 24 (words1.drop 24), List.all_append, w_t2, w_t3]
  rfl
set_option maxRecDepth 65536 in
theorem w_case : (Jvm.Cond.and given_1 narrow_1).before args0 about1 = true := by decide +kernel
theorem w_applies : (headSpec (Jvm.Cond.code x code maxLocals ret :: tables_1) room_1).applies x e0.platform about1 = true :=
  (Spec.applies_iff w_frames).mpr ⟨w_running, w_runnable, w_alone, w_named, w_hears, w_ripe, w_room, w_tables⟩
theorem atStart : AtStart classFile x code maxLocals ret World_1 tables_1 room_1 Calls_1 rest_1 Pre_1 launch0 p0 e0 about1 theMethod args0 below0 :=
  ⟨lists_1, trivial, launch0.admits_env _ _ _, launch0.least_env, fairChoices_fair.cas, fairChoices_fair.clock, w_frames, w_args, w_heap, w_applies, trivial, trivial, w_case⟩
end start1
theorem witness_1 : WitnessClaimed_1 := ⟨start1.p0, start1.e0, start1.about1, start1.theMethod, start1.args0, start1.below0, start1.atStart⟩
end Jvm.Pilot.@@N@@
