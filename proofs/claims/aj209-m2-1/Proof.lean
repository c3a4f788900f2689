import JvmDerived
import JvmDerived.Pilot.@@N@@Statement
import JvmDerived.Pilot.@@N@@Code
set_option linter.unusedVariables false
set_option linter.unusedSimpArgs false
namespace Jvm.Pilot.@@N@@
open Jvm Jvm.ClassFile Sem Op Lib Jvm.Free Jvm.Stand Jvm.LawKit Jvm.RoadKit Bundle Jvm.Pilot.@@N@@.Jvm.D
section Own
variable {p : Program} {l : Launch} {e : Env} {R : Room} {s : State} {m : MethodId} {args : Array Value} {below : List Frame} {meth : Method} {c : Code} {T : State} {locs : List Loc} {cells slots : Nat} {Z : State} {a0 : Array Value} {K : State → Outcome → Prop} {pc pc' : Nat} {Ls : Array Slot} {st : List Value} {h : Heap}
/-- from here the run ends, and what is left is as K says -/
def own_Go (p : Program) (e : Env) (below : List Frame) (K : State → Outcome → Prop) (T : State) (f : JFrame) : Prop :=
  ∃ s₂ o, Steps p.tables e below (T.setTop f) s₂ ∧ s₂.status = .running ∧ Ended s₂ below o ∧ K s₂ o
def own_K (Q : Option Value → Heap → List Loc → Prop) (s : State) (cs ss : Nat) : State → Outcome → Prop := fun u o => ∃ v L, o = .returned v ∧ Q v u.heap L ∧ FrameEnd s o u L cs ss
theorem own_go {T' : State} {f f' : JFrame} (h : ∀ t, Steps p.tables e below (T'.setTop f') t → Steps p.tables e below (T.setTop f) t) (k : own_Go p e below K T' f') : own_Go p e below K T f := by
  obtain ⟨a, b, c, d⟩ := k
  exact ⟨a, b, h _ c, d⟩
theorem own_w {tb : List Jvm.Cond} (hw : ∀ d ∈ tb, d.before a0 Z = true) {d : Jvm.Cond} (k : Nat) (h : tb[k]? = some d) : d.before a0 Z = true := hw _ (List.mem_of_getElem? h)
/-- a method's contract: called with these arguments over this heap it returns, and Q says what it leaves -/
abbrev own_Met (l : Launch) (Z : State) (y : MethodName) (bytes : ByteArray) (mx : Nat) (rt : Option FieldType) (ws : List Jvm.Cond) (rm : Room) (as : Array Value) (h0 : Heap) (Q : Option Value → Heap → List Loc → Prop) : Prop :=
  MetFree l y (head1 (Jvm.Cond.code y bytes mx rt :: ws) rm) (fun a U => a = as ∧ Z.Warmed39 U.vm ∧ U.heap = h0) (fun _ _ _ _ _ => True) (fun _ U o U' => ∃ v L, o = .returned v ∧ Q v U'.heap L ∧ FrameEnd U o U' L rm.cells rm.slots)
theorem own_body {y : MethodName} {bytes : ByteArray} {mx : Nat} {rt : Option FieldType} {ws : List Jvm.Cond} {rm : Room} {as : Array Value} {h0 : Heap} {Q : Option Value → Heap → List Loc → Prop} (hp : plainFor y = true)
    (body : ∀ (p : Program) (e : Env) (s : State) (m : MethodId) (below : List Frame) (meth : Method) (c : Code) (T : State), Stand p l e rm s m as below meth c T [] 0 0 → p.tables.exec = Jvm.exec → c.code = bytes → c.maxLocals = mx → meth.sig.returnType = rt → meth.locks = false → Z.Warmed39 s.vm → s.vm.findClass y.cls = some m.cls → meth.name = y.name → T.heap = h0 →
      own_Go p e below (own_K Q s rm.cells rm.slots) T (entryFrame m as mx)) : own_Met l Z y bytes mx rt ws rm as h0 Q := by
  refine MetFree.of_bodySF hp hisR ?_
  intro p e s m args below meth c s₁ Bd hml0 hP hK
  obtain ⟨rfl, hZ, hh⟩ := hP
  exact body p e s m below meth c s₁ (Stand.of_body Bd) Bd.exec Bd.bytes hml0 Bd.returns Bd.notSynchronized hZ (findClass_of_methodNamed Bd.named) (name_of_methodNamed Bd.named Bd.method).1 (by rw [← hh, Bd.state]; rfl)
theorem own_ret (X : Stand p l e R s m args below meth c T locs cells slots) (hx : p.tables.exec = Jvm.exec) {Q : Option Value → Heap → List Loc → Prop} {cs ss : Nat} {w : Value} {t : FieldType} {i : Instr} {rest : List Value} (hlk : meth.locks = false) (hret : meth.sig.returnType = some t) (hd : decode c.code pc = .ok (i, 1)) (hn : narrow t w = w)
    (hi : (i = .ireturn ∧ (t = .int ∨ t = .boolean ∨ t = .byte ∨ t = .char ∨ t = .short) ∧ ∃ z, w = .int z) ∨ (i = .lreturn ∧ t = .long ∧ ∃ z, w = .long z) ∨ (i = .dreturn ∧ t = .double ∧ ∃ z, w = .double z) ∨ (i = .freturn ∧ t = .float ∧ ∃ z, w = .float z) ∨ (i = .areturn ∧ t.isReference = true ∧ w.isRef = true))
    (hc : cells ≤ cs) (hs : slots ≤ ss) (hq : Q (some w) T.heap locs) : own_Go p e below (own_K Q s cs ss) T (mkF m pc Ls (w :: rest)) := by
  obtain ⟨fs, hr, hrun, hended, hW, hsame⟩ := X.leave (v := some w) (fun h => by rw [hret] at h; cases h) hlk
  exact ⟨_, _, retOut X hx hret hn hi hd hr, hrun, hended, _, _, rfl, hq, ⟨_, rfl⟩, hW, hsame.mono hc hs⟩
theorem own_retI (X : Stand p l e R s m args below meth c T locs cells slots) (hx : p.tables.exec = Jvm.exec) {Q : Option Value → Heap → List Loc → Prop} {cs ss : Nat} {z : Int32} {rest : List Value} (hlk : meth.locks = false) (hret : meth.sig.returnType = some .int) (hd : decode c.code pc = .ok (.ireturn, 1)) (hc : cells ≤ cs) (hs : slots ≤ ss) (hq : Q (some (.int z)) T.heap locs) : own_Go p e below (own_K Q s cs ss) T (mkF m pc Ls (.int z :: rest)) :=
  own_ret X hx hlk hret hd rfl (Or.inl ⟨rfl, Or.inl rfl, z, rfl⟩) hc hs hq
theorem own_retZ (X : Stand p l e R s m args below meth c T locs cells slots) (hx : p.tables.exec = Jvm.exec) {Q : Option Value → Heap → List Loc → Prop} {cs ss : Nat} {z : Int32} {rest : List Value} (hlk : meth.locks = false) (hret : meth.sig.returnType = some .boolean) (hd : decode c.code pc = .ok (.ireturn, 1)) (hn : z = 0 ∨ z = 1) (hc : cells ≤ cs) (hs : slots ≤ ss) (hq : Q (some (.int z)) T.heap locs) : own_Go p e below (own_K Q s cs ss) T (mkF m pc Ls (.int z :: rest)) :=
  own_ret X hx hlk hret hd (by rcases hn with rfl | rfl <;> rfl) (Or.inl ⟨rfl, Or.inr (Or.inl rfl), z, rfl⟩) hc hs hq
theorem own_retJ (X : Stand p l e R s m args below meth c T locs cells slots) (hx : p.tables.exec = Jvm.exec) {Q : Option Value → Heap → List Loc → Prop} {cs ss : Nat} {z : Int64} {rest : List Value} (hlk : meth.locks = false) (hret : meth.sig.returnType = some .long) (hd : decode c.code pc = .ok (.lreturn, 1)) (hc : cells ≤ cs) (hs : slots ≤ ss) (hq : Q (some (.long z)) T.heap locs) : own_Go p e below (own_K Q s cs ss) T (mkF m pc Ls (.long z :: rest)) :=
  own_ret X hx hlk hret hd rfl (Or.inr (Or.inl ⟨rfl, rfl, z, rfl⟩)) hc hs hq
theorem own_retA (X : Stand p l e R s m args below meth c T locs cells slots) (hx : p.tables.exec = Jvm.exec) {Q : Option Value → Heap → List Loc → Prop} {cs ss : Nat} {w : Value} {t : FieldType} {rest : List Value} (hlk : meth.locks = false) (hret : meth.sig.returnType = some t) (hd : decode c.code pc = .ok (.areturn, 1)) (ht : t.isReference = true) (hv : w.isRef = true) (hc : cells ≤ cs) (hs : slots ≤ ss) (hq : Q (some w) T.heap locs) : own_Go p e below (own_K Q s cs ss) T (mkF m pc Ls (w :: rest)) :=
  own_ret X hx hlk hret hd (by rcases ref_cases hv with rfl | ⟨a, rfl⟩ <;> cases t <;> first | rfl | cases ht) (Or.inr (Or.inr (Or.inr (Or.inr ⟨rfl, ht, hv⟩)))) hc hs hq
theorem own_retV (X : Stand p l e R s m args below meth c T locs cells slots) (hx : p.tables.exec = Jvm.exec) {Q : Option Value → Heap → List Loc → Prop} {cs ss : Nat} (hlk : meth.locks = false) (hret : meth.sig.returnType = none) (hd : decode c.code pc = .ok (.return_, 1)) (hc : cells ≤ cs) (hs : slots ≤ ss) (hq : Q none T.heap locs) : own_Go p e below (own_K Q s cs ss) T (mkF m pc Ls []) := by
  obtain ⟨fs, hr, hrun, hended, hW, hsame⟩ := X.leave (v := none) (fun _ => rfl) hlk
  exact ⟨_, _, X.returnOut hx hret hd hr, hrun, hended, _, _, rfl, hq, ⟨_, rfl⟩, hW, hsame.mono hc hs⟩
/-- the two roads of a conditional branch -/
theorem own_if (X : Stand p l e R s m args below meth c T locs cells slots) (hx : p.tables.exec = Jvm.exec) {cd : ClassFile.Cond} {o : Int} {z : Int32} {rest : List Value} (hd : decode c.code pc = .ok (.ifCond cd o, 3)) (ho : 0 ≤ (pc : Int) + o) (hp : ((pc : Int) + o).toNat = pc') {pc1 : Nat} (hp1 : pc + 3 = pc1) (P : Prop) (h1 : P → ifCond.holds cd z = true) (h2 : ¬ P → ifCond.holds cd z = false)
    (kt : P → own_Go p e below K T (mkF m pc' Ls rest)) (kf : ¬ P → own_Go p e below K T (mkF m pc1 Ls rest)) : own_Go p e below K T (mkF m pc Ls (.int z :: rest)) := by
  subst hp1
  by_cases q : P
  · exact own_go (fun t k => XS.ifYes X.here hx (g := mkF m pc Ls (.int z :: rest)) rfl (pc0 := pc) (pc' := pc') rfl hd rfl (h1 q) ho hp k) (kt q)
  · exact own_go (fun t k => XS.ifNo X.here hx (g := mkF m pc Ls (.int z :: rest)) rfl hd rfl (h2 q) k) (kf q)
theorem own_icmp (X : Stand p l e R s m args below meth c T locs cells slots) (hx : p.tables.exec = Jvm.exec) {cd : ClassFile.Cond} {o : Int} {y z : Int32} {rest : List Value} (hd : decode c.code pc = .ok (.if_icmp cd o, 3)) (ho : 0 ≤ (pc : Int) + o) (hp : ((pc : Int) + o).toNat = pc') {pc1 : Nat} (hp1 : pc + 3 = pc1) (P : Prop) (h1 : P → if_icmp.holds cd y z = true) (h2 : ¬ P → if_icmp.holds cd y z = false)
    (kt : P → own_Go p e below K T (mkF m pc' Ls rest)) (kf : ¬ P → own_Go p e below K T (mkF m pc1 Ls rest)) : own_Go p e below K T (mkF m pc Ls (.int z :: .int y :: rest)) := by
  subst hp1
  by_cases q : P
  · exact own_go (fun t k => XS.icmpYes X.here hx (g := mkF m pc Ls (.int z :: .int y :: rest)) rfl (pc0 := pc) (pc' := pc') rfl hd rfl (h1 q) ho hp k) (kt q)
  · exact own_go (fun t k => XS.icmpNo X.here hx (g := mkF m pc Ls (.int z :: .int y :: rest)) rfl hd rfl (h2 q) k) (kf q)
theorem own_callS (X : Stand p l e R s m args below meth c T locs cells slots) (hx : p.tables.exec = Jvm.exec) (hZ : Z.Warmed39 s.vm) {own : String} {index : Nat} {y : MethodName} {bytes : ByteArray} {mx : Nat} {rt : Option FieldType} {rm : Room} {argsL rest : List Value} {Q : Option Value → Heap → List Loc → Prop}
    (hown : s.vm.findClass own = some m.cls) (w1 : (Jvm.Cond.methodLink own index y).before a0 Z = true) (w2 : (Jvm.Cond.static y).before a0 Z = true) (w3 : (Jvm.Cond.initialized y.cls).before a0 Z = true) (w4 : (Jvm.Cond.code y bytes mx rt).before a0 Z = true) (hy : y.cls ≠ "java/lang/invoke/MethodHandle" ∧ y.cls ≠ "java/lang/invoke/VarHandle")
    (eT : T.heap = h) (hM : own_Met l Z y bytes mx rt [] rm argsL.toArray h Q) (W : Nat) (hf : rm.frames + 1 ≤ R.frames) (hl : W + (mx + 11) + rm.locals ≤ R.locals) (hcl : cells + rm.cells ≤ R.cells) (hsl : slots + rm.slots ≤ R.slots) (hsz : Ls.size = c.maxLocals) (hlen : ∀ sig, parseMethodDescriptor y.desc = some sig → argsL.length = sig.parameters.length)
    (hst : st = argsL.reverse ++ rest) (hW : (rest.map fun v => v.category).sum ≤ W) (hd : decode c.code pc = .ok (.invokestatic index, 3)) :
    ∃ v T' L, Stand p l e R s m args below meth c T' (locs ++ L) (cells + rm.cells) (slots + rm.slots) ∧ Q v T'.heap L ∧ ∀ t, Steps p.tables e below (T'.setTop (mkF m (pc + 3) Ls (v.toList ++ rest))) t → Steps p.tables e below (T.setTop (mkF m pc Ls st)) t := by
  obtain ⟨v, vm1, ⟨T', L', k', n'⟩, -, X', ⟨L, hQ, l1, l2, l3⟩, stp⟩ := Jvm.LawKit.callS X hx (y := y) hown (mvT hZ w1) (mvT hZ w2) (mvT hZ w3) (mvT hZ w4) hy (backOf (W := W) hM hZ w4 w3 hf hl) (g := mkF m pc Ls st) rfl hsz (argsL := argsL) (rest := rest) hlen hst (by show 2 * 0 + _ ≤ _; omega) hd (fun _ _ => ⟨rfl, eT, hcl, hsl⟩)
  dsimp only [Pt.U, Pt.locs, Pt.cells, Pt.slots] at X' l1 l2 l3 stp hQ
  subst l1 l2 l3
  exact ⟨v, T', L, X', hQ, stp⟩
theorem own_callV (X : Stand p l e R s m args below meth c T locs cells slots) (hx : p.tables.exec = Jvm.exec) (hZ : Z.Warmed39 s.vm) {own C : String} {index : Nat} {y z : MethodName} {bytes : ByteArray} {mx : Nat} {rt : Option FieldType} {rm : Room} {b : Addr} {argsL rest : List Value} {Q : Option Value → Heap → List Loc → Prop}
    (hown : s.vm.findClass own = some m.cls) (w1 : (Jvm.Cond.methodLink own index y).before a0 Z = true) (w2 : (Jvm.Cond.declares y).before a0 Z = true) (w3 : (Jvm.Cond.selects C y z).before a0 Z = true) (hnf : NotFace s y) (w4 : (Jvm.Cond.instanceMethod z).before a0 Z = true) (w5 : (Jvm.Cond.code z bytes mx rt).before a0 Z = true) (w6 : (Jvm.Cond.initialized z.cls).before a0 Z = true) (hy : y.cls ≠ "java/lang/invoke/MethodHandle" ∧ y.cls ≠ "java/lang/invoke/VarHandle")
    (eT : T.heap = h) (E : Exa Z h b C) (hM : own_Met l Z z bytes mx rt [] rm (.ref b :: argsL).toArray h Q) (W : Nat) (hf : rm.frames + 1 ≤ R.frames) (hl : W + (mx + 11) + rm.locals ≤ R.locals) (hcl : cells + rm.cells ≤ R.cells) (hsl : slots + rm.slots ≤ R.slots) (hsz : Ls.size = c.maxLocals) (hlen : ∀ sig, parseMethodDescriptor y.desc = some sig → argsL.length = sig.parameters.length)
    (hst : st = argsL.reverse ++ .ref b :: rest) (hW : (rest.map fun v => v.category).sum ≤ W) (hd : decode c.code pc = .ok (.invokevirtual index, 3)) :
    ∃ v T' L, Stand p l e R s m args below meth c T' (locs ++ L) (cells + rm.cells) (slots + rm.slots) ∧ Q v T'.heap L ∧ ∀ t, Steps p.tables e below (T'.setTop (mkF m (pc + 3) Ls (v.toList ++ rest))) t → Steps p.tables e below (T.setTop (mkF m pc Ls st)) t := by
  obtain ⟨cq, kq, q1, q2, q3⟩ := isOf hZ eT E
  obtain ⟨v, vm1, ⟨T', L', k', n'⟩, -, X', ⟨L, hQ, l1, l2, l3⟩, stp⟩ := X.virtualBack hx (y := y) (z := z) hown (mvT hZ w1) (mvT hZ w2) hnf (mvT hZ w3) (mvT hZ w4) hy (backOf (W := W) hM hZ w5 w6 hf hl) q1 q3 (g := mkF m pc Ls st) rfl hsz (Steps.refl _) (argsL := argsL) (rest := rest) hlen hst (by show 2 * 0 + _ ≤ _; omega) hd (fun _ _ => ⟨rfl, eT, hcl, hsl⟩)
  dsimp only [Pt.U, Pt.locs, Pt.cells, Pt.slots] at X' l1 l2 l3 stp hQ
  subst l1 l2 l3
  exact ⟨v, T', L, X', hQ, fun t k => stp.trans k⟩
theorem own_callU (X : Stand p l e R s m args below meth c T locs cells slots) (hx : p.tables.exec = Jvm.exec) (hZ : Z.Warmed39 s.vm) {own C owner : String} {index : Nat} {y z : MethodName} {bytes : ByteArray} {mx : Nat} {rt : Option FieldType} {rm : Room} {b : Addr} {argsL rest : List Value} {Q : Option Value → Heap → List Loc → Prop}
    (hown : s.vm.findClass own = some m.cls) (w1 : (Jvm.Cond.methodLink own index y).before a0 Z = true) (w2 : (Jvm.Cond.sameMethod y.cls owner y.name y.desc).before a0 Z = true) (w2' : (Jvm.Cond.declares ⟨owner, y.name, y.desc⟩).before a0 Z = true) (w3 : (Jvm.Cond.selects C y z).before a0 Z = true) (w4 : (Jvm.Cond.instanceMethod z).before a0 Z = true) (w5 : (Jvm.Cond.code z bytes mx rt).before a0 Z = true) (w6 : (Jvm.Cond.initialized z.cls).before a0 Z = true) (hy : owner ≠ "java/lang/invoke/MethodHandle" ∧ owner ≠ "java/lang/invoke/VarHandle")
    (eT : T.heap = h) (E : Exa Z h b C) (hM : own_Met l Z z bytes mx rt [] rm (.ref b :: argsL).toArray h Q) (W : Nat) (hf : rm.frames + 1 ≤ R.frames) (hl : W + (mx + 11) + rm.locals ≤ R.locals) (hcl : cells + rm.cells ≤ R.cells) (hsl : slots + rm.slots ≤ R.slots) (hsz : Ls.size = c.maxLocals) (hlen : ∀ sig, parseMethodDescriptor y.desc = some sig → argsL.length = sig.parameters.length)
    (hst : st = argsL.reverse ++ .ref b :: rest) (hW : (rest.map fun v => v.category).sum ≤ W) (hd : decode c.code pc = .ok (.invokevirtual index, 3)) :
    ∃ v T' L, Stand p l e R s m args below meth c T' (locs ++ L) (cells + rm.cells) (slots + rm.slots) ∧ Q v T'.heap L ∧ ∀ t, Steps p.tables e below (T'.setTop (mkF m (pc + 3) Ls (v.toList ++ rest))) t → Steps p.tables e below (T.setTop (mkF m pc Ls st)) t := by
  obtain ⟨cq, kq, q1, q2, q3⟩ := isOf hZ eT E
  obtain ⟨v, vm1, ⟨T', L', k', n'⟩, -, X', ⟨L, hQ, l1, l2, l3⟩, stp⟩ := X.virtualBackUp hx (x := y) (y := z) hown (mvT hZ w1) (mvT hZ w2) (mvT hZ w2') hy (mvT hZ w3) (mvT hZ w4) (backOf (W := W) hM hZ w5 w6 hf hl) q1 q3 (g := mkF m pc Ls st) rfl hsz (Steps.refl _) (argsL := argsL) (rest := rest) hlen hst (by show 2 * 0 + _ ≤ _; omega) hd (fun _ _ => ⟨rfl, eT, hcl, hsl⟩)
  dsimp only [Pt.U, Pt.locs, Pt.cells, Pt.slots] at X' l1 l2 l3 stp hQ
  subst l1 l2 l3
  exact ⟨v, T', L, X', hQ, fun t k => stp.trans k⟩
theorem own_callC (X : Stand p l e R s m args below meth c T locs cells slots) (hx : p.tables.exec = Jvm.exec) (hZ : Z.Warmed39 s.vm) {own : String} {index : Nat} {y : MethodName} {bytes : ByteArray} {mx : Nat} {rm : Room} {b : Addr} {argsL rest : List Value} {Q : Option Value → Heap → List Loc → Prop}
    (hy1 : y.name = "<init>") (hown : s.vm.findClass own = some m.cls) (w1 : (Jvm.Cond.methodLink own index y).before a0 Z = true) (w4 : (Jvm.Cond.instanceMethod y).before a0 Z = true) (w5 : (Jvm.Cond.code y bytes mx none).before a0 Z = true) (w6 : (Jvm.Cond.initialized y.cls).before a0 Z = true) (hy : y.cls ≠ "java/lang/invoke/MethodHandle" ∧ y.cls ≠ "java/lang/invoke/VarHandle")
    (eT : T.heap = h) (hM : own_Met l Z y bytes mx none [] rm (.ref b :: argsL).toArray h Q) (W : Nat) (hf : rm.frames + 1 ≤ R.frames) (hl : W + (mx + 11) + rm.locals ≤ R.locals) (hcl : cells + rm.cells ≤ R.cells) (hsl : slots + rm.slots ≤ R.slots) (hsz : Ls.size = c.maxLocals) (hlen : ∀ sig, parseMethodDescriptor y.desc = some sig → argsL.length = sig.parameters.length)
    (hst : st = argsL.reverse ++ .ref b :: rest) (hW : (rest.map fun v => v.category).sum ≤ W) (hd : decode c.code pc = .ok (.invokespecial index, 3)) :
    ∃ v T' L, Stand p l e R s m args below meth c T' (locs ++ L) (cells + rm.cells) (slots + rm.slots) ∧ Q v T'.heap L ∧ ∀ t, Steps p.tables e below (T'.setTop (mkF m (pc + 3) Ls (v.toList ++ rest))) t → Steps p.tables e below (T.setTop (mkF m pc Ls st)) t := by
  obtain ⟨v, vm1, ⟨T', L', k', n'⟩, -, X', ⟨L, hQ, l1, l2, l3⟩, stp⟩ := X.specialBack hx (y := y) hy1 hown (mvT hZ w1) (mvT hZ w4) (mvT hZ w5) hy (backOf (W := W) hM hZ w5 w6 hf hl) (g := mkF m pc Ls st) rfl hsz (Steps.refl _) (a := b) (argsL := argsL) (rest := rest) hlen hst (by show 2 * 0 + _ ≤ _; omega) hd (fun _ _ => ⟨rfl, eT, hcl, hsl⟩)
  dsimp only [Pt.U, Pt.locs, Pt.cells, Pt.slots] at X' l1 l2 l3 stp hQ
  subst l1 l2 l3
  exact ⟨v, T', L, X', hQ, fun t k => stp.trans k⟩
end Own
section OwnStart
variable {Z : State} {args : Array Value} {t u : Term} {a : Addr} {C n d : String}
theorem own_eqI {k : Int32} (h : (Jvm.Cond.eq t (.int k)).value args Z none Z [] = some true) : t.eval args Z none [] Z = some (.int k) := by
  simp only [Cond.value, Term.eval] at h
  cases ht : t.eval args Z none [] Z with
  | none => simp [ht] at h
  | some x => cases x <;> simp [ht] at h ⊢; exact h
theorem own_eqJ {k : Int64} (h : (Jvm.Cond.eq t (.long k)).value args Z none Z [] = some true) : t.eval args Z none [] Z = some (.long k) := by
  simp only [Cond.value, Term.eval] at h
  cases ht : t.eval args Z none [] Z with
  | none => simp [ht] at h
  | some x => cases x <;> simp [ht] at h ⊢; exact h
theorem own_fld {v : Value} (ev : t.eval args Z none [] Z = some (.ref a)) (h : (Term.field t C n d).eval args Z none [] Z = some v) : Fld Z Z.heap a C n d v := Fld.start ((fld_at ev).symm.trans h)
theorem own_eqR {b : Addr} (ha : t.eval args Z none [] Z = some (.ref b)) (h : (Jvm.Cond.eq u t).value args Z none Z [] = some true) : u.eval args Z none [] Z = some (.ref b) := by
  cases hu : u.eval args Z none [] Z with
  | none => simp [Cond.value, hu] at h
  | some x => cases x <;> simp [Cond.value, hu, ha] at h ⊢; exact h
theorem own_lenOf {cl : Cell} {ty : FieldType} {k : Int32} (ev : t.eval args Z none [] Z = some (.ref a)) (A : Arr Z Z.heap a cl ty) (h : (Term.length t).eval args Z none [] Z = some (.int k)) : cl.slots.size < 2 ^ 31 ∧ cl.slots.size.toInt32 = k := by
  have q := A.fin (Vm.Alike.refl _)
  by_cases hl : cl.slots.size < 2 ^ 31
  · rw [len_f ev q hl] at h
    exact ⟨hl, by cases h; rfl⟩
  · simp [Term.eval, ev, q, hl] at h
end OwnStart
theorem own_last (p1 : Int32) (h5 : ¬ p1 = (5 : Int32)) (h6 : ¬ p1 = (6 : Int32)) (h7 : ¬ p1 = (7 : Int32)) (h8 : ¬ p1 = (8 : Int32)) (h9 : ¬ p1 = (9 : Int32)) (h10 : ¬ p1 = (10 : Int32)) (h11 : ¬ p1 = (11 : Int32)) (h12 : ¬ p1 = (12 : Int32)) (h13 : ¬ p1 = (13 : Int32)) (h14 : ¬ p1 = (14 : Int32)) (h15 : ¬ p1 = (15 : Int32)) (h16 : ¬ p1 = (16 : Int32)) (h17 : ¬ p1 = (17 : Int32)) (h18 : ¬ p1 = (18 : Int32)) (h19 : ¬ p1 = (19 : Int32)) : ((9 : Int32) < 8 ↔ (5 : Int32) ≤ p1 ∧ p1 ≤ 19) := by
  have T : ∀ k : Int32, ¬ p1 = k → p1.toInt ≠ k.toInt := fun k h q => h (Int32.toInt_inj.mp q)
  have t5 : p1.toInt ≠ 5 := T 5 h5
  have t6 : p1.toInt ≠ 6 := T 6 h6
  have t7 : p1.toInt ≠ 7 := T 7 h7
  have t8 : p1.toInt ≠ 8 := T 8 h8
  have t9 : p1.toInt ≠ 9 := T 9 h9
  have t10 : p1.toInt ≠ 10 := T 10 h10
  have t11 : p1.toInt ≠ 11 := T 11 h11
  have t12 : p1.toInt ≠ 12 := T 12 h12
  have t13 : p1.toInt ≠ 13 := T 13 h13
  have t14 : p1.toInt ≠ 14 := T 14 h14
  have t15 : p1.toInt ≠ 15 := T 15 h15
  have t16 : p1.toInt ≠ 16 := T 16 h16
  have t17 : p1.toInt ≠ 17 := T 17 h17
  have t18 : p1.toInt ≠ 18 := T 18 h18
  have t19 : p1.toInt ≠ 19 := T 19 h19
  refine ⟨fun q => absurd q (by decide), fun q => ?_⟩
  obtain ⟨q1, q2⟩ := q
  rw [Int32.le_iff_toInt_le] at q1 q2
  have e5 : (5 : Int32).toInt = 5 := rfl
  have e19 : (19 : Int32).toInt = 19 := rfl
  omega
theorem pn_com_example_forking_paths_forkingpaths_io_OpIsBinaryPinLaw : plainName "com/example/forking_paths/forkingpaths/io/OpIsBinaryPinLaw" = true := by first | (simp [plainName, overriddenIn]; done) | decide +kernel
theorem ef_1 (m : MethodId) (x0 : Int32) : entryFrame m #[(.int x0)] 1 = mkF m 0 #[.val (.int x0)] [] := by first | (simp [entryFrame, mkF, argsToLocals, Value.category]; done) | rfl
theorem d1_0 : decode method_2_code 0 = .ok (.iload_n 0, 1) := by decide +kernel
theorem d1_1 : decode method_2_code 1 = .ok (.ifCond .ne 7, 3) := by decide +kernel
theorem d1_4 : decode method_2_code 4 = .ok (.getstatic 7, 3) := by decide +kernel
theorem d1_7 : decode method_2_code 7 = .ok (.areturn, 1) := by decide +kernel
theorem d1_8 : decode method_2_code 8 = .ok (.iload_n 0, 1) := by decide +kernel
theorem d1_9 : decode method_2_code 9 = .ok (.iconst 1, 1) := by decide +kernel
theorem d1_10 : decode method_2_code 10 = .ok (.if_icmp .ne 7, 3) := by decide +kernel
theorem d1_13 : decode method_2_code 13 = .ok (.getstatic 13, 3) := by decide +kernel
theorem d1_16 : decode method_2_code 16 = .ok (.areturn, 1) := by decide +kernel
theorem d1_17 : decode method_2_code 17 = .ok (.iload_n 0, 1) := by decide +kernel
theorem d1_18 : decode method_2_code 18 = .ok (.iconst 2, 1) := by decide +kernel
theorem d1_19 : decode method_2_code 19 = .ok (.if_icmp .ne 7, 3) := by decide +kernel
theorem d1_22 : decode method_2_code 22 = .ok (.getstatic 16, 3) := by decide +kernel
theorem d1_25 : decode method_2_code 25 = .ok (.areturn, 1) := by decide +kernel
theorem d1_26 : decode method_2_code 26 = .ok (.iload_n 0, 1) := by decide +kernel
theorem d1_27 : decode method_2_code 27 = .ok (.iconst 3, 1) := by decide +kernel
theorem d1_28 : decode method_2_code 28 = .ok (.if_icmp .ne 7, 3) := by decide +kernel
theorem d1_31 : decode method_2_code 31 = .ok (.getstatic 19, 3) := by decide +kernel
theorem d1_34 : decode method_2_code 34 = .ok (.areturn, 1) := by decide +kernel
theorem d1_35 : decode method_2_code 35 = .ok (.iload_n 0, 1) := by decide +kernel
theorem d1_36 : decode method_2_code 36 = .ok (.iconst 4, 1) := by decide +kernel
theorem d1_37 : decode method_2_code 37 = .ok (.if_icmp .ne 7, 3) := by decide +kernel
theorem d1_40 : decode method_2_code 40 = .ok (.getstatic 22, 3) := by decide +kernel
theorem d1_43 : decode method_2_code 43 = .ok (.areturn, 1) := by decide +kernel
theorem d1_44 : decode method_2_code 44 = .ok (.iload_n 0, 1) := by decide +kernel
theorem d1_45 : decode method_2_code 45 = .ok (.iconst 5, 1) := by decide +kernel
theorem d1_46 : decode method_2_code 46 = .ok (.if_icmp .ne 7, 3) := by decide +kernel
theorem d1_49 : decode method_2_code 49 = .ok (.getstatic 25, 3) := by decide +kernel
theorem d1_52 : decode method_2_code 52 = .ok (.areturn, 1) := by decide +kernel
theorem d1_53 : decode method_2_code 53 = .ok (.iload_n 0, 1) := by decide +kernel
theorem d1_54 : decode method_2_code 54 = .ok (.bipush 6, 2) := by decide +kernel
theorem d1_56 : decode method_2_code 56 = .ok (.if_icmp .ne 7, 3) := by decide +kernel
theorem d1_59 : decode method_2_code 59 = .ok (.getstatic 28, 3) := by decide +kernel
theorem d1_62 : decode method_2_code 62 = .ok (.areturn, 1) := by decide +kernel
theorem d1_63 : decode method_2_code 63 = .ok (.iload_n 0, 1) := by decide +kernel
theorem d1_64 : decode method_2_code 64 = .ok (.bipush 7, 2) := by decide +kernel
theorem d1_66 : decode method_2_code 66 = .ok (.if_icmp .ne 7, 3) := by decide +kernel
theorem d1_69 : decode method_2_code 69 = .ok (.getstatic 31, 3) := by decide +kernel
theorem d1_72 : decode method_2_code 72 = .ok (.areturn, 1) := by decide +kernel
theorem d1_73 : decode method_2_code 73 = .ok (.iload_n 0, 1) := by decide +kernel
theorem d1_74 : decode method_2_code 74 = .ok (.bipush 8, 2) := by decide +kernel
theorem d1_76 : decode method_2_code 76 = .ok (.if_icmp .ne 7, 3) := by decide +kernel
theorem d1_79 : decode method_2_code 79 = .ok (.getstatic 34, 3) := by decide +kernel
theorem d1_82 : decode method_2_code 82 = .ok (.areturn, 1) := by decide +kernel
theorem d1_83 : decode method_2_code 83 = .ok (.iload_n 0, 1) := by decide +kernel
theorem d1_84 : decode method_2_code 84 = .ok (.bipush 9, 2) := by decide +kernel
theorem d1_86 : decode method_2_code 86 = .ok (.if_icmp .ne 7, 3) := by decide +kernel
theorem d1_89 : decode method_2_code 89 = .ok (.getstatic 37, 3) := by decide +kernel
theorem d1_92 : decode method_2_code 92 = .ok (.areturn, 1) := by decide +kernel
theorem d1_93 : decode method_2_code 93 = .ok (.iload_n 0, 1) := by decide +kernel
theorem d1_94 : decode method_2_code 94 = .ok (.bipush 10, 2) := by decide +kernel
theorem d1_96 : decode method_2_code 96 = .ok (.if_icmp .ne 7, 3) := by decide +kernel
theorem d1_99 : decode method_2_code 99 = .ok (.getstatic 40, 3) := by decide +kernel
theorem d1_102 : decode method_2_code 102 = .ok (.areturn, 1) := by decide +kernel
theorem d1_103 : decode method_2_code 103 = .ok (.iload_n 0, 1) := by decide +kernel
theorem d1_104 : decode method_2_code 104 = .ok (.bipush 11, 2) := by decide +kernel
theorem d1_106 : decode method_2_code 106 = .ok (.if_icmp .ne 7, 3) := by decide +kernel
theorem d1_109 : decode method_2_code 109 = .ok (.getstatic 43, 3) := by decide +kernel
theorem d1_112 : decode method_2_code 112 = .ok (.areturn, 1) := by decide +kernel
theorem d1_113 : decode method_2_code 113 = .ok (.iload_n 0, 1) := by decide +kernel
theorem d1_114 : decode method_2_code 114 = .ok (.bipush 12, 2) := by decide +kernel
theorem d1_116 : decode method_2_code 116 = .ok (.if_icmp .ne 7, 3) := by decide +kernel
theorem d1_119 : decode method_2_code 119 = .ok (.getstatic 46, 3) := by decide +kernel
theorem d1_122 : decode method_2_code 122 = .ok (.areturn, 1) := by decide +kernel
theorem d1_123 : decode method_2_code 123 = .ok (.iload_n 0, 1) := by decide +kernel
theorem d1_124 : decode method_2_code 124 = .ok (.bipush 13, 2) := by decide +kernel
theorem d1_126 : decode method_2_code 126 = .ok (.if_icmp .ne 7, 3) := by decide +kernel
theorem d1_129 : decode method_2_code 129 = .ok (.getstatic 49, 3) := by decide +kernel
theorem d1_132 : decode method_2_code 132 = .ok (.areturn, 1) := by decide +kernel
theorem d1_133 : decode method_2_code 133 = .ok (.iload_n 0, 1) := by decide +kernel
theorem d1_134 : decode method_2_code 134 = .ok (.bipush 14, 2) := by decide +kernel
theorem d1_136 : decode method_2_code 136 = .ok (.if_icmp .ne 7, 3) := by decide +kernel
theorem d1_139 : decode method_2_code 139 = .ok (.getstatic 52, 3) := by decide +kernel
theorem d1_142 : decode method_2_code 142 = .ok (.areturn, 1) := by decide +kernel
theorem d1_143 : decode method_2_code 143 = .ok (.iload_n 0, 1) := by decide +kernel
theorem d1_144 : decode method_2_code 144 = .ok (.bipush 15, 2) := by decide +kernel
theorem d1_146 : decode method_2_code 146 = .ok (.if_icmp .ne 7, 3) := by decide +kernel
theorem d1_149 : decode method_2_code 149 = .ok (.getstatic 55, 3) := by decide +kernel
theorem d1_152 : decode method_2_code 152 = .ok (.areturn, 1) := by decide +kernel
theorem d1_153 : decode method_2_code 153 = .ok (.iload_n 0, 1) := by decide +kernel
theorem d1_154 : decode method_2_code 154 = .ok (.bipush 16, 2) := by decide +kernel
theorem d1_156 : decode method_2_code 156 = .ok (.if_icmp .ne 7, 3) := by decide +kernel
theorem d1_159 : decode method_2_code 159 = .ok (.getstatic 58, 3) := by decide +kernel
theorem d1_162 : decode method_2_code 162 = .ok (.areturn, 1) := by decide +kernel
theorem d1_163 : decode method_2_code 163 = .ok (.iload_n 0, 1) := by decide +kernel
theorem d1_164 : decode method_2_code 164 = .ok (.bipush 17, 2) := by decide +kernel
theorem d1_166 : decode method_2_code 166 = .ok (.if_icmp .ne 7, 3) := by decide +kernel
theorem d1_169 : decode method_2_code 169 = .ok (.getstatic 61, 3) := by decide +kernel
theorem d1_172 : decode method_2_code 172 = .ok (.areturn, 1) := by decide +kernel
theorem d1_173 : decode method_2_code 173 = .ok (.iload_n 0, 1) := by decide +kernel
theorem d1_174 : decode method_2_code 174 = .ok (.bipush 18, 2) := by decide +kernel
theorem d1_176 : decode method_2_code 176 = .ok (.if_icmp .ne 7, 3) := by decide +kernel
theorem d1_179 : decode method_2_code 179 = .ok (.getstatic 64, 3) := by decide +kernel
theorem d1_182 : decode method_2_code 182 = .ok (.areturn, 1) := by decide +kernel
theorem d1_183 : decode method_2_code 183 = .ok (.iload_n 0, 1) := by decide +kernel
theorem d1_184 : decode method_2_code 184 = .ok (.bipush 19, 2) := by decide +kernel
theorem d1_186 : decode method_2_code 186 = .ok (.if_icmp .ne 7, 3) := by decide +kernel
theorem d1_189 : decode method_2_code 189 = .ok (.getstatic 67, 3) := by decide +kernel
theorem d1_192 : decode method_2_code 192 = .ok (.areturn, 1) := by decide +kernel
theorem d1_193 : decode method_2_code 193 = .ok (.iload_n 0, 1) := by decide +kernel
theorem d1_194 : decode method_2_code 194 = .ok (.bipush 20, 2) := by decide +kernel
theorem d1_196 : decode method_2_code 196 = .ok (.if_icmp .ne 7, 3) := by decide +kernel
theorem d1_199 : decode method_2_code 199 = .ok (.getstatic 70, 3) := by decide +kernel
theorem d1_202 : decode method_2_code 202 = .ok (.areturn, 1) := by decide +kernel
theorem d1_203 : decode method_2_code 203 = .ok (.getstatic 73, 3) := by decide +kernel
theorem d1_206 : decode method_2_code 206 = .ok (.areturn, 1) := by decide +kernel
theorem pn_com_example_forking_paths_forkingpaths_io_SmvExpression_Op : plainName "com/example/forking_paths/forkingpaths/io/SmvExpression$Op" = true := by first | (simp [plainName, overriddenIn]; done) | decide +kernel
theorem ef_2 (m : MethodId) (x0 : Addr) : entryFrame m #[(.ref x0)] 1 = mkF m 0 #[.val (.ref x0)] [] := by first | (simp [entryFrame, mkF, argsToLocals, Value.category]; done) | rfl
theorem d2_0 : decode prog_44_method_6_code 0 = .ok (.aload_n 0, 1) := by decide +kernel
theorem d2_1 : decode prog_44_method_6_code 1 = .ok (.getfield 93, 3) := by decide +kernel
theorem d2_4 : decode prog_44_method_6_code 4 = .ok (.bipush 8, 2) := by decide +kernel
theorem d2_6 : decode prog_44_method_6_code 6 = .ok (.if_icmp .ge 7, 3) := by decide +kernel
theorem d2_9 : decode prog_44_method_6_code 9 = .ok (.iconst 1, 1) := by decide +kernel
theorem d2_10 : decode prog_44_method_6_code 10 = .ok (.goto 4, 3) := by decide +kernel
theorem d2_14 : decode prog_44_method_6_code 14 = .ok (.ireturn, 1) := by decide +kernel
theorem d2_13 : decode prog_44_method_6_code 13 = .ok (.iconst 0, 1) := by decide +kernel
theorem ef_0 (m : MethodId) (x0 : Int32) : entryFrame m #[(.int x0)] maxLocals = mkF m 0 #[.val (.int x0), .unset, .unset, .unset] [] := by first | (simp [entryFrame, mkF, argsToLocals, Value.category, maxLocals]; done) | rfl
theorem pd_1 : parseMethodDescriptor "(I)Lcom/example/forking_paths/forkingpaths/io/SmvExpression$Op;" = some ⟨[.int], some (.object "com/example/forking_paths/forkingpaths/io/SmvExpression$Op")⟩ := by decide +kernel
theorem pd_0 : parseMethodDescriptor "()Z" = some ⟨[], some .boolean⟩ := by decide +kernel
set_option maxRecDepth 65536 in
set_option maxHeartbeats 40000000 in
theorem rm1 (l : Launch) (Z : State) (a0 : Array Value) (hw : ∀ d ∈ tables_1, d.before a0 Z = true) (ws : List Jvm.Cond) (p1 : Int32) (a_NUMBER : Addr) (a_NOT : Addr) (a_PLUS : Addr) (a_MINUS : Addr) (a_NAME : Addr) (a_LESS : Addr) (a_NOT_EQUAL : Addr) (a_BOOLEAN : Addr) (a_EQUAL : Addr) (a_TIMES : Addr) (a_OR : Addr) (a_MOD : Addr) (a_IMPLIES : Addr) (a_IFF : Addr) (a_AND : Addr) (a_NEGATE : Addr) (a_SET : Addr) (a_GREATER_EQUAL : Addr) (a_LESS_EQUAL : Addr) (a_GREATER : Addr) (a_XOR : Addr) (a_CASE : Addr) (h0 : Heap) (n0 : Nat) (Z0 : n0 ≤ h0.size) (S_NUMBER : Sta Z h0 "com/example/forking_paths/forkingpaths/io/SmvExpression$Op" "NUMBER" "Lcom/example/forking_paths/forkingpaths/io/SmvExpression$Op;" (.ref a_NUMBER)) (E_NUMBER : Exa Z h0 a_NUMBER "com/example/forking_paths/forkingpaths/io/SmvExpression$Op") (S_NOT : Sta Z h0 "com/example/forking_paths/forkingpaths/io/SmvExpression$Op" "NOT" "Lcom/example/forking_paths/forkingpaths/io/SmvExpression$Op;" (.ref a_NOT)) (E_NOT : Exa Z h0 a_NOT "com/example/forking_paths/forkingpaths/io/SmvExpression$Op") (S_PLUS : Sta Z h0 "com/example/forking_paths/forkingpaths/io/SmvExpression$Op" "PLUS" "Lcom/example/forking_paths/forkingpaths/io/SmvExpression$Op;" (.ref a_PLUS)) (E_PLUS : Exa Z h0 a_PLUS "com/example/forking_paths/forkingpaths/io/SmvExpression$Op") (S_MINUS : Sta Z h0 "com/example/forking_paths/forkingpaths/io/SmvExpression$Op" "MINUS" "Lcom/example/forking_paths/forkingpaths/io/SmvExpression$Op;" (.ref a_MINUS)) (E_MINUS : Exa Z h0 a_MINUS "com/example/forking_paths/forkingpaths/io/SmvExpression$Op") (S_NAME : Sta Z h0 "com/example/forking_paths/forkingpaths/io/SmvExpression$Op" "NAME" "Lcom/example/forking_paths/forkingpaths/io/SmvExpression$Op;" (.ref a_NAME)) (E_NAME : Exa Z h0 a_NAME "com/example/forking_paths/forkingpaths/io/SmvExpression$Op") (S_LESS : Sta Z h0 "com/example/forking_paths/forkingpaths/io/SmvExpression$Op" "LESS" "Lcom/example/forking_paths/forkingpaths/io/SmvExpression$Op;" (.ref a_LESS)) (E_LESS : Exa Z h0 a_LESS "com/example/forking_paths/forkingpaths/io/SmvExpression$Op") (S_NOT_EQUAL : Sta Z h0 "com/example/forking_paths/forkingpaths/io/SmvExpression$Op" "NOT_EQUAL" "Lcom/example/forking_paths/forkingpaths/io/SmvExpression$Op;" (.ref a_NOT_EQUAL)) (E_NOT_EQUAL : Exa Z h0 a_NOT_EQUAL "com/example/forking_paths/forkingpaths/io/SmvExpression$Op") (S_BOOLEAN : Sta Z h0 "com/example/forking_paths/forkingpaths/io/SmvExpression$Op" "BOOLEAN" "Lcom/example/forking_paths/forkingpaths/io/SmvExpression$Op;" (.ref a_BOOLEAN)) (E_BOOLEAN : Exa Z h0 a_BOOLEAN "com/example/forking_paths/forkingpaths/io/SmvExpression$Op") (S_EQUAL : Sta Z h0 "com/example/forking_paths/forkingpaths/io/SmvExpression$Op" "EQUAL" "Lcom/example/forking_paths/forkingpaths/io/SmvExpression$Op;" (.ref a_EQUAL)) (E_EQUAL : Exa Z h0 a_EQUAL "com/example/forking_paths/forkingpaths/io/SmvExpression$Op") (S_TIMES : Sta Z h0 "com/example/forking_paths/forkingpaths/io/SmvExpression$Op" "TIMES" "Lcom/example/forking_paths/forkingpaths/io/SmvExpression$Op;" (.ref a_TIMES)) (E_TIMES : Exa Z h0 a_TIMES "com/example/forking_paths/forkingpaths/io/SmvExpression$Op") (S_OR : Sta Z h0 "com/example/forking_paths/forkingpaths/io/SmvExpression$Op" "OR" "Lcom/example/forking_paths/forkingpaths/io/SmvExpression$Op;" (.ref a_OR)) (E_OR : Exa Z h0 a_OR "com/example/forking_paths/forkingpaths/io/SmvExpression$Op") (S_MOD : Sta Z h0 "com/example/forking_paths/forkingpaths/io/SmvExpression$Op" "MOD" "Lcom/example/forking_paths/forkingpaths/io/SmvExpression$Op;" (.ref a_MOD)) (E_MOD : Exa Z h0 a_MOD "com/example/forking_paths/forkingpaths/io/SmvExpression$Op") (S_IMPLIES : Sta Z h0 "com/example/forking_paths/forkingpaths/io/SmvExpression$Op" "IMPLIES" "Lcom/example/forking_paths/forkingpaths/io/SmvExpression$Op;" (.ref a_IMPLIES)) (E_IMPLIES : Exa Z h0 a_IMPLIES "com/example/forking_paths/forkingpaths/io/SmvExpression$Op") (S_IFF : Sta Z h0 "com/example/forking_paths/forkingpaths/io/SmvExpression$Op" "IFF" "Lcom/example/forking_paths/forkingpaths/io/SmvExpression$Op;" (.ref a_IFF)) (E_IFF : Exa Z h0 a_IFF "com/example/forking_paths/forkingpaths/io/SmvExpression$Op") (S_AND : Sta Z h0 "com/example/forking_paths/forkingpaths/io/SmvExpression$Op" "AND" "Lcom/example/forking_paths/forkingpaths/io/SmvExpression$Op;" (.ref a_AND)) (E_AND : Exa Z h0 a_AND "com/example/forking_paths/forkingpaths/io/SmvExpression$Op") (S_NEGATE : Sta Z h0 "com/example/forking_paths/forkingpaths/io/SmvExpression$Op" "NEGATE" "Lcom/example/forking_paths/forkingpaths/io/SmvExpression$Op;" (.ref a_NEGATE)) (E_NEGATE : Exa Z h0 a_NEGATE "com/example/forking_paths/forkingpaths/io/SmvExpression$Op") (S_SET : Sta Z h0 "com/example/forking_paths/forkingpaths/io/SmvExpression$Op" "SET" "Lcom/example/forking_paths/forkingpaths/io/SmvExpression$Op;" (.ref a_SET)) (E_SET : Exa Z h0 a_SET "com/example/forking_paths/forkingpaths/io/SmvExpression$Op") (S_GREATER_EQUAL : Sta Z h0 "com/example/forking_paths/forkingpaths/io/SmvExpression$Op" "GREATER_EQUAL" "Lcom/example/forking_paths/forkingpaths/io/SmvExpression$Op;" (.ref a_GREATER_EQUAL)) (E_GREATER_EQUAL : Exa Z h0 a_GREATER_EQUAL "com/example/forking_paths/forkingpaths/io/SmvExpression$Op") (S_LESS_EQUAL : Sta Z h0 "com/example/forking_paths/forkingpaths/io/SmvExpression$Op" "LESS_EQUAL" "Lcom/example/forking_paths/forkingpaths/io/SmvExpression$Op;" (.ref a_LESS_EQUAL)) (E_LESS_EQUAL : Exa Z h0 a_LESS_EQUAL "com/example/forking_paths/forkingpaths/io/SmvExpression$Op") (S_GREATER : Sta Z h0 "com/example/forking_paths/forkingpaths/io/SmvExpression$Op" "GREATER" "Lcom/example/forking_paths/forkingpaths/io/SmvExpression$Op;" (.ref a_GREATER)) (E_GREATER : Exa Z h0 a_GREATER "com/example/forking_paths/forkingpaths/io/SmvExpression$Op") (S_XOR : Sta Z h0 "com/example/forking_paths/forkingpaths/io/SmvExpression$Op" "XOR" "Lcom/example/forking_paths/forkingpaths/io/SmvExpression$Op;" (.ref a_XOR)) (E_XOR : Exa Z h0 a_XOR "com/example/forking_paths/forkingpaths/io/SmvExpression$Op") (S_CASE : Sta Z h0 "com/example/forking_paths/forkingpaths/io/SmvExpression$Op" "CASE" "Lcom/example/forking_paths/forkingpaths/io/SmvExpression$Op;" (.ref a_CASE)) (E_CASE : Exa Z h0 a_CASE "com/example/forking_paths/forkingpaths/io/SmvExpression$Op") (F_NUMBER_binding : Fld Z h0 a_NUMBER "com/example/forking_paths/forkingpaths/io/SmvExpression$Op" "binding" "I" (.int (9 : Int32))) (F_NOT_binding : Fld Z h0 a_NOT "com/example/forking_paths/forkingpaths/io/SmvExpression$Op" "binding" "I" (.int (8 : Int32))) (F_PLUS_binding : Fld Z h0 a_PLUS "com/example/forking_paths/forkingpaths/io/SmvExpression$Op" "binding" "I" (.int (6 : Int32))) (F_MINUS_binding : Fld Z h0 a_MINUS "com/example/forking_paths/forkingpaths/io/SmvExpression$Op" "binding" "I" (.int (6 : Int32))) (F_NAME_binding : Fld Z h0 a_NAME "com/example/forking_paths/forkingpaths/io/SmvExpression$Op" "binding" "I" (.int (9 : Int32))) (F_LESS_binding : Fld Z h0 a_LESS "com/example/forking_paths/forkingpaths/io/SmvExpression$Op" "binding" "I" (.int (5 : Int32))) (F_NOT_EQUAL_binding : Fld Z h0 a_NOT_EQUAL "com/example/forking_paths/forkingpaths/io/SmvExpression$Op" "binding" "I" (.int (5 : Int32))) (F_BOOLEAN_binding : Fld Z h0 a_BOOLEAN "com/example/forking_paths/forkingpaths/io/SmvExpression$Op" "binding" "I" (.int (9 : Int32))) (F_EQUAL_binding : Fld Z h0 a_EQUAL "com/example/forking_paths/forkingpaths/io/SmvExpression$Op" "binding" "I" (.int (5 : Int32))) (F_TIMES_binding : Fld Z h0 a_TIMES "com/example/forking_paths/forkingpaths/io/SmvExpression$Op" "binding" "I" (.int (7 : Int32))) (F_OR_binding : Fld Z h0 a_OR "com/example/forking_paths/forkingpaths/io/SmvExpression$Op" "binding" "I" (.int (3 : Int32))) (F_MOD_binding : Fld Z h0 a_MOD "com/example/forking_paths/forkingpaths/io/SmvExpression$Op" "binding" "I" (.int (7 : Int32))) (F_IMPLIES_binding : Fld Z h0 a_IMPLIES "com/example/forking_paths/forkingpaths/io/SmvExpression$Op" "binding" "I" (.int (1 : Int32))) (F_IFF_binding : Fld Z h0 a_IFF "com/example/forking_paths/forkingpaths/io/SmvExpression$Op" "binding" "I" (.int (2 : Int32))) (F_AND_binding : Fld Z h0 a_AND "com/example/forking_paths/forkingpaths/io/SmvExpression$Op" "binding" "I" (.int (4 : Int32))) (F_NEGATE_binding : Fld Z h0 a_NEGATE "com/example/forking_paths/forkingpaths/io/SmvExpression$Op" "binding" "I" (.int (8 : Int32))) (F_SET_binding : Fld Z h0 a_SET "com/example/forking_paths/forkingpaths/io/SmvExpression$Op" "binding" "I" (.int (9 : Int32))) (F_GREATER_EQUAL_binding : Fld Z h0 a_GREATER_EQUAL "com/example/forking_paths/forkingpaths/io/SmvExpression$Op" "binding" "I" (.int (5 : Int32))) (F_LESS_EQUAL_binding : Fld Z h0 a_LESS_EQUAL "com/example/forking_paths/forkingpaths/io/SmvExpression$Op" "binding" "I" (.int (5 : Int32))) (F_GREATER_binding : Fld Z h0 a_GREATER "com/example/forking_paths/forkingpaths/io/SmvExpression$Op" "binding" "I" (.int (5 : Int32))) (F_XOR_binding : Fld Z h0 a_XOR "com/example/forking_paths/forkingpaths/io/SmvExpression$Op" "binding" "I" (.int (3 : Int32))) (F_CASE_binding : Fld Z h0 a_CASE "com/example/forking_paths/forkingpaths/io/SmvExpression$Op" "binding" "I" (.int (9 : Int32))) :
    own_Met l Z (⟨"com/example/forking_paths/forkingpaths/io/OpIsBinaryPinLaw", "pick", "(I)Lcom/example/forking_paths/forkingpaths/io/SmvExpression$Op;"⟩ : MethodName) method_2_code 1 (some (.object "com/example/forking_paths/forkingpaths/io/SmvExpression$Op")) ws ({ frames := 0, cells := 0, slots := 0, locals := 0 } : Room) #[(.int p1)] h0 (fun v h L => (∃ (a : Addr) (b : Int32), v = some (.ref a) ∧ Exa Z h0 a "com/example/forking_paths/forkingpaths/io/SmvExpression$Op" ∧ Fld Z h0 a "com/example/forking_paths/forkingpaths/io/SmvExpression$Op" "binding" "I" (.int b) ∧ (b < 8 ↔ 5 ≤ p1 ∧ p1 ≤ 19)) ∧ Fr n0 L ∧ h = h0) := by
  refine own_body (by first | exact plainFor_of_name pn_com_example_forking_paths_forkingpaths_io_OpIsBinaryPinLaw | decide +kernel) ?_
  intro p e s m below meth c T0 X0 hx hby hml hret hlk hZ hown hnm e0
  have hown : s.vm.findClass "com/example/forking_paths/forkingpaths/io/OpIsBinaryPinLaw" = some m.cls := hown
  have hnm : meth.name = "pick" := hnm
  have N0 := Fr.nil n0
  rw [ef_1 m p1]
  show own_Go p e below _ T0 (mkF m 0 #[.val (.int p1)] [])
  refine own_go (fun t k => XS.iloadN X0.here hx rfl (hb hby d1_0) rfl k) ?_
  show own_Go p e below _ T0 (mkF m 1 #[.val (.int p1)] [(.int p1)])
  by_cases hc1 : p1 = 0
  · show own_Go p e below _ T0 (mkF m 1 #[.val (.int p1)] [(.int p1)])
    refine own_go (fun t k => XS.ifNo X0.here hx rfl (hb hby d1_1) rfl (XT.i0_ne_f hc1) k) ?_
    show own_Go p e below _ T0 (mkF m 4 #[.val (.int p1)] [])
    obtain ⟨T1, X1, e1, st1⟩ := getS2 X0 hx hZ hown (host := "") (Or.inl (own_w hw 5 rfl)) Via.refl e0 S_NUMBER (g := (mkF m 4 #[.val (.int p1)] [])) rfl (hb hby d1_4)
    refine own_go st1 ?_
    show own_Go p e below _ T1 (mkF m 7 #[.val (.int p1)] [(.ref a_NUMBER)])
    refine own_retA X1 hx hlk hret (hb hby d1_7) rfl rfl (by decide) (by decide) ?_
    exact ⟨⟨a_NUMBER, (9 : Int32), rfl, E_NUMBER, F_NUMBER_binding, by rw [hc1]; decide⟩, N0, e1⟩
  · show own_Go p e below _ T0 (mkF m 1 #[.val (.int p1)] [(.int p1)])
    refine own_go (fun t k => XS.ifYes X0.here hx rfl (pc0 := 1) (pc' := 8) rfl (hb hby d1_1) rfl (XT.i0_ne_t hc1) (by decide) (by decide) k) ?_
    show own_Go p e below _ T0 (mkF m 8 #[.val (.int p1)] [])
    refine own_go (fun t k => XS.iloadN X0.here hx rfl (hb hby d1_8) rfl k) ?_
    show own_Go p e below _ T0 (mkF m 9 #[.val (.int p1)] [(.int p1)])
    refine own_go (fun t k => XS.iconst X0.here hx rfl (hb hby d1_9) k) ?_
    show own_Go p e below _ T0 (mkF m 10 #[.val (.int p1)] [(.int (1 : Int32)), (.int p1)])
    by_cases hc10 : p1 = (1 : Int32)
    · show own_Go p e below _ T0 (mkF m 10 #[.val (.int p1)] [(.int (1 : Int32)), (.int p1)])
      refine own_go (fun t k => XS.icmpNo X0.here hx rfl (hb hby d1_10) rfl (XT.ii_ne_f hc10) k) ?_
      show own_Go p e below _ T0 (mkF m 13 #[.val (.int p1)] [])
      obtain ⟨T2, X2, e2, st2⟩ := getS2 X0 hx hZ hown (host := "") (Or.inl (own_w hw 27 rfl)) Via.refl e0 S_BOOLEAN (g := (mkF m 13 #[.val (.int p1)] [])) rfl (hb hby d1_13)
      refine own_go st2 ?_
      show own_Go p e below _ T2 (mkF m 16 #[.val (.int p1)] [(.ref a_BOOLEAN)])
      refine own_retA X2 hx hlk hret (hb hby d1_16) rfl rfl (by decide) (by decide) ?_
      exact ⟨⟨a_BOOLEAN, (9 : Int32), rfl, E_BOOLEAN, F_BOOLEAN_binding, by rw [hc10]; decide⟩, N0, e2⟩
    · show own_Go p e below _ T0 (mkF m 10 #[.val (.int p1)] [(.int (1 : Int32)), (.int p1)])
      refine own_go (fun t k => XS.icmpYes X0.here hx rfl (pc0 := 10) (pc' := 17) rfl (hb hby d1_10) rfl (XT.ii_ne_t hc10) (by decide) (by decide) k) ?_
      show own_Go p e below _ T0 (mkF m 17 #[.val (.int p1)] [])
      refine own_go (fun t k => XS.iloadN X0.here hx rfl (hb hby d1_17) rfl k) ?_
      show own_Go p e below _ T0 (mkF m 18 #[.val (.int p1)] [(.int p1)])
      refine own_go (fun t k => XS.iconst X0.here hx rfl (hb hby d1_18) k) ?_
      show own_Go p e below _ T0 (mkF m 19 #[.val (.int p1)] [(.int (2 : Int32)), (.int p1)])
      by_cases hc19 : p1 = (2 : Int32)
      · show own_Go p e below _ T0 (mkF m 19 #[.val (.int p1)] [(.int (2 : Int32)), (.int p1)])
        refine own_go (fun t k => XS.icmpNo X0.here hx rfl (hb hby d1_19) rfl (XT.ii_ne_f hc19) k) ?_
        show own_Go p e below _ T0 (mkF m 22 #[.val (.int p1)] [])
        obtain ⟨T3, X3, e3, st3⟩ := getS2 X0 hx hZ hown (host := "") (Or.inl (own_w hw 21 rfl)) Via.refl e0 S_NAME (g := (mkF m 22 #[.val (.int p1)] [])) rfl (hb hby d1_22)
        refine own_go st3 ?_
        show own_Go p e below _ T3 (mkF m 25 #[.val (.int p1)] [(.ref a_NAME)])
        refine own_retA X3 hx hlk hret (hb hby d1_25) rfl rfl (by decide) (by decide) ?_
        exact ⟨⟨a_NAME, (9 : Int32), rfl, E_NAME, F_NAME_binding, by rw [hc19]; decide⟩, N0, e3⟩
      · show own_Go p e below _ T0 (mkF m 19 #[.val (.int p1)] [(.int (2 : Int32)), (.int p1)])
        refine own_go (fun t k => XS.icmpYes X0.here hx rfl (pc0 := 19) (pc' := 26) rfl (hb hby d1_19) rfl (XT.ii_ne_t hc19) (by decide) (by decide) k) ?_
        show own_Go p e below _ T0 (mkF m 26 #[.val (.int p1)] [])
        refine own_go (fun t k => XS.iloadN X0.here hx rfl (hb hby d1_26) rfl k) ?_
        show own_Go p e below _ T0 (mkF m 27 #[.val (.int p1)] [(.int p1)])
        refine own_go (fun t k => XS.iconst X0.here hx rfl (hb hby d1_27) k) ?_
        show own_Go p e below _ T0 (mkF m 28 #[.val (.int p1)] [(.int (3 : Int32)), (.int p1)])
        by_cases hc28 : p1 = (3 : Int32)
        · show own_Go p e below _ T0 (mkF m 28 #[.val (.int p1)] [(.int (3 : Int32)), (.int p1)])
          refine own_go (fun t k => XS.icmpNo X0.here hx rfl (hb hby d1_28) rfl (XT.ii_ne_f hc28) k) ?_
          show own_Go p e below _ T0 (mkF m 31 #[.val (.int p1)] [])
          obtain ⟨T4, X4, e4, st4⟩ := getS2 X0 hx hZ hown (host := "") (Or.inl (own_w hw 15 rfl)) Via.refl e0 S_NOT (g := (mkF m 31 #[.val (.int p1)] [])) rfl (hb hby d1_31)
          refine own_go st4 ?_
          show own_Go p e below _ T4 (mkF m 34 #[.val (.int p1)] [(.ref a_NOT)])
          refine own_retA X4 hx hlk hret (hb hby d1_34) rfl rfl (by decide) (by decide) ?_
          exact ⟨⟨a_NOT, (8 : Int32), rfl, E_NOT, F_NOT_binding, by rw [hc28]; decide⟩, N0, e4⟩
        · show own_Go p e below _ T0 (mkF m 28 #[.val (.int p1)] [(.int (3 : Int32)), (.int p1)])
          refine own_go (fun t k => XS.icmpYes X0.here hx rfl (pc0 := 28) (pc' := 35) rfl (hb hby d1_28) rfl (XT.ii_ne_t hc28) (by decide) (by decide) k) ?_
          show own_Go p e below _ T0 (mkF m 35 #[.val (.int p1)] [])
          refine own_go (fun t k => XS.iloadN X0.here hx rfl (hb hby d1_35) rfl k) ?_
          show own_Go p e below _ T0 (mkF m 36 #[.val (.int p1)] [(.int p1)])
          refine own_go (fun t k => XS.iconst X0.here hx rfl (hb hby d1_36) k) ?_
          show own_Go p e below _ T0 (mkF m 37 #[.val (.int p1)] [(.int (4 : Int32)), (.int p1)])
          by_cases hc37 : p1 = (4 : Int32)
          · show own_Go p e below _ T0 (mkF m 37 #[.val (.int p1)] [(.int (4 : Int32)), (.int p1)])
            refine own_go (fun t k => XS.icmpNo X0.here hx rfl (hb hby d1_37) rfl (XT.ii_ne_f hc37) k) ?_
            show own_Go p e below _ T0 (mkF m 40 #[.val (.int p1)] [])
            obtain ⟨T5, X5, e5, st5⟩ := getS2 X0 hx hZ hown (host := "") (Or.inl (own_w hw 43 rfl)) Via.refl e0 S_NEGATE (g := (mkF m 40 #[.val (.int p1)] [])) rfl (hb hby d1_40)
            refine own_go st5 ?_
            show own_Go p e below _ T5 (mkF m 43 #[.val (.int p1)] [(.ref a_NEGATE)])
            refine own_retA X5 hx hlk hret (hb hby d1_43) rfl rfl (by decide) (by decide) ?_
            exact ⟨⟨a_NEGATE, (8 : Int32), rfl, E_NEGATE, F_NEGATE_binding, by rw [hc37]; decide⟩, N0, e5⟩
          · show own_Go p e below _ T0 (mkF m 37 #[.val (.int p1)] [(.int (4 : Int32)), (.int p1)])
            refine own_go (fun t k => XS.icmpYes X0.here hx rfl (pc0 := 37) (pc' := 44) rfl (hb hby d1_37) rfl (XT.ii_ne_t hc37) (by decide) (by decide) k) ?_
            show own_Go p e below _ T0 (mkF m 44 #[.val (.int p1)] [])
            refine own_go (fun t k => XS.iloadN X0.here hx rfl (hb hby d1_44) rfl k) ?_
            show own_Go p e below _ T0 (mkF m 45 #[.val (.int p1)] [(.int p1)])
            refine own_go (fun t k => XS.iconst X0.here hx rfl (hb hby d1_45) k) ?_
            show own_Go p e below _ T0 (mkF m 46 #[.val (.int p1)] [(.int (5 : Int32)), (.int p1)])
            by_cases hc46 : p1 = (5 : Int32)
            · show own_Go p e below _ T0 (mkF m 46 #[.val (.int p1)] [(.int (5 : Int32)), (.int p1)])
              refine own_go (fun t k => XS.icmpNo X0.here hx rfl (hb hby d1_46) rfl (XT.ii_ne_f hc46) k) ?_
              show own_Go p e below _ T0 (mkF m 49 #[.val (.int p1)] [])
              obtain ⟨T6, X6, e6, st6⟩ := getS2 X0 hx hZ hown (host := "") (Or.inl (own_w hw 31 rfl)) Via.refl e0 S_TIMES (g := (mkF m 49 #[.val (.int p1)] [])) rfl (hb hby d1_49)
              refine own_go st6 ?_
              show own_Go p e below _ T6 (mkF m 52 #[.val (.int p1)] [(.ref a_TIMES)])
              refine own_retA X6 hx hlk hret (hb hby d1_52) rfl rfl (by decide) (by decide) ?_
              exact ⟨⟨a_TIMES, (7 : Int32), rfl, E_TIMES, F_TIMES_binding, by rw [hc46]; decide⟩, N0, e6⟩
            · show own_Go p e below _ T0 (mkF m 46 #[.val (.int p1)] [(.int (5 : Int32)), (.int p1)])
              refine own_go (fun t k => XS.icmpYes X0.here hx rfl (pc0 := 46) (pc' := 53) rfl (hb hby d1_46) rfl (XT.ii_ne_t hc46) (by decide) (by decide) k) ?_
              show own_Go p e below _ T0 (mkF m 53 #[.val (.int p1)] [])
              refine own_go (fun t k => XS.iloadN X0.here hx rfl (hb hby d1_53) rfl k) ?_
              show own_Go p e below _ T0 (mkF m 54 #[.val (.int p1)] [(.int p1)])
              refine own_go (fun t k => XS.bipush X0.here hx rfl (hb hby d1_54) k) ?_
              show own_Go p e below _ T0 (mkF m 56 #[.val (.int p1)] [(.int (6 : Int32)), (.int p1)])
              by_cases hc56 : p1 = (6 : Int32)
              · show own_Go p e below _ T0 (mkF m 56 #[.val (.int p1)] [(.int (6 : Int32)), (.int p1)])
                refine own_go (fun t k => XS.icmpNo X0.here hx rfl (hb hby d1_56) rfl (XT.ii_ne_f hc56) k) ?_
                show own_Go p e below _ T0 (mkF m 59 #[.val (.int p1)] [])
                obtain ⟨T7, X7, e7, st7⟩ := getS2 X0 hx hZ hown (host := "") (Or.inl (own_w hw 35 rfl)) Via.refl e0 S_MOD (g := (mkF m 59 #[.val (.int p1)] [])) rfl (hb hby d1_59)
                refine own_go st7 ?_
                show own_Go p e below _ T7 (mkF m 62 #[.val (.int p1)] [(.ref a_MOD)])
                refine own_retA X7 hx hlk hret (hb hby d1_62) rfl rfl (by decide) (by decide) ?_
                exact ⟨⟨a_MOD, (7 : Int32), rfl, E_MOD, F_MOD_binding, by rw [hc56]; decide⟩, N0, e7⟩
              · show own_Go p e below _ T0 (mkF m 56 #[.val (.int p1)] [(.int (6 : Int32)), (.int p1)])
                refine own_go (fun t k => XS.icmpYes X0.here hx rfl (pc0 := 56) (pc' := 63) rfl (hb hby d1_56) rfl (XT.ii_ne_t hc56) (by decide) (by decide) k) ?_
                show own_Go p e below _ T0 (mkF m 63 #[.val (.int p1)] [])
                refine own_go (fun t k => XS.iloadN X0.here hx rfl (hb hby d1_63) rfl k) ?_
                show own_Go p e below _ T0 (mkF m 64 #[.val (.int p1)] [(.int p1)])
                refine own_go (fun t k => XS.bipush X0.here hx rfl (hb hby d1_64) k) ?_
                show own_Go p e below _ T0 (mkF m 66 #[.val (.int p1)] [(.int (7 : Int32)), (.int p1)])
                by_cases hc66 : p1 = (7 : Int32)
                · show own_Go p e below _ T0 (mkF m 66 #[.val (.int p1)] [(.int (7 : Int32)), (.int p1)])
                  refine own_go (fun t k => XS.icmpNo X0.here hx rfl (hb hby d1_66) rfl (XT.ii_ne_f hc66) k) ?_
                  show own_Go p e below _ T0 (mkF m 69 #[.val (.int p1)] [])
                  obtain ⟨T8, X8, e8, st8⟩ := getS2 X0 hx hZ hown (host := "") (Or.inl (own_w hw 17 rfl)) Via.refl e0 S_PLUS (g := (mkF m 69 #[.val (.int p1)] [])) rfl (hb hby d1_69)
                  refine own_go st8 ?_
                  show own_Go p e below _ T8 (mkF m 72 #[.val (.int p1)] [(.ref a_PLUS)])
                  refine own_retA X8 hx hlk hret (hb hby d1_72) rfl rfl (by decide) (by decide) ?_
                  exact ⟨⟨a_PLUS, (6 : Int32), rfl, E_PLUS, F_PLUS_binding, by rw [hc66]; decide⟩, N0, e8⟩
                · show own_Go p e below _ T0 (mkF m 66 #[.val (.int p1)] [(.int (7 : Int32)), (.int p1)])
                  refine own_go (fun t k => XS.icmpYes X0.here hx rfl (pc0 := 66) (pc' := 73) rfl (hb hby d1_66) rfl (XT.ii_ne_t hc66) (by decide) (by decide) k) ?_
                  show own_Go p e below _ T0 (mkF m 73 #[.val (.int p1)] [])
                  refine own_go (fun t k => XS.iloadN X0.here hx rfl (hb hby d1_73) rfl k) ?_
                  show own_Go p e below _ T0 (mkF m 74 #[.val (.int p1)] [(.int p1)])
                  refine own_go (fun t k => XS.bipush X0.here hx rfl (hb hby d1_74) k) ?_
                  show own_Go p e below _ T0 (mkF m 76 #[.val (.int p1)] [(.int (8 : Int32)), (.int p1)])
                  by_cases hc76 : p1 = (8 : Int32)
                  · show own_Go p e below _ T0 (mkF m 76 #[.val (.int p1)] [(.int (8 : Int32)), (.int p1)])
                    refine own_go (fun t k => XS.icmpNo X0.here hx rfl (hb hby d1_76) rfl (XT.ii_ne_f hc76) k) ?_
                    show own_Go p e below _ T0 (mkF m 79 #[.val (.int p1)] [])
                    obtain ⟨T9, X9, e9, st9⟩ := getS2 X0 hx hZ hown (host := "") (Or.inl (own_w hw 19 rfl)) Via.refl e0 S_MINUS (g := (mkF m 79 #[.val (.int p1)] [])) rfl (hb hby d1_79)
                    refine own_go st9 ?_
                    show own_Go p e below _ T9 (mkF m 82 #[.val (.int p1)] [(.ref a_MINUS)])
                    refine own_retA X9 hx hlk hret (hb hby d1_82) rfl rfl (by decide) (by decide) ?_
                    exact ⟨⟨a_MINUS, (6 : Int32), rfl, E_MINUS, F_MINUS_binding, by rw [hc76]; decide⟩, N0, e9⟩
                  · show own_Go p e below _ T0 (mkF m 76 #[.val (.int p1)] [(.int (8 : Int32)), (.int p1)])
                    refine own_go (fun t k => XS.icmpYes X0.here hx rfl (pc0 := 76) (pc' := 83) rfl (hb hby d1_76) rfl (XT.ii_ne_t hc76) (by decide) (by decide) k) ?_
                    show own_Go p e below _ T0 (mkF m 83 #[.val (.int p1)] [])
                    refine own_go (fun t k => XS.iloadN X0.here hx rfl (hb hby d1_83) rfl k) ?_
                    show own_Go p e below _ T0 (mkF m 84 #[.val (.int p1)] [(.int p1)])
                    refine own_go (fun t k => XS.bipush X0.here hx rfl (hb hby d1_84) k) ?_
                    show own_Go p e below _ T0 (mkF m 86 #[.val (.int p1)] [(.int (9 : Int32)), (.int p1)])
                    by_cases hc86 : p1 = (9 : Int32)
                    · show own_Go p e below _ T0 (mkF m 86 #[.val (.int p1)] [(.int (9 : Int32)), (.int p1)])
                      refine own_go (fun t k => XS.icmpNo X0.here hx rfl (hb hby d1_86) rfl (XT.ii_ne_f hc86) k) ?_
                      show own_Go p e below _ T0 (mkF m 89 #[.val (.int p1)] [])
                      obtain ⟨T10, X10, e10, st10⟩ := getS2 X0 hx hZ hown (host := "") (Or.inl (own_w hw 29 rfl)) Via.refl e0 S_EQUAL (g := (mkF m 89 #[.val (.int p1)] [])) rfl (hb hby d1_89)
                      refine own_go st10 ?_
                      show own_Go p e below _ T10 (mkF m 92 #[.val (.int p1)] [(.ref a_EQUAL)])
                      refine own_retA X10 hx hlk hret (hb hby d1_92) rfl rfl (by decide) (by decide) ?_
                      exact ⟨⟨a_EQUAL, (5 : Int32), rfl, E_EQUAL, F_EQUAL_binding, by rw [hc86]; decide⟩, N0, e10⟩
                    · show own_Go p e below _ T0 (mkF m 86 #[.val (.int p1)] [(.int (9 : Int32)), (.int p1)])
                      refine own_go (fun t k => XS.icmpYes X0.here hx rfl (pc0 := 86) (pc' := 93) rfl (hb hby d1_86) rfl (XT.ii_ne_t hc86) (by decide) (by decide) k) ?_
                      show own_Go p e below _ T0 (mkF m 93 #[.val (.int p1)] [])
                      refine own_go (fun t k => XS.iloadN X0.here hx rfl (hb hby d1_93) rfl k) ?_
                      show own_Go p e below _ T0 (mkF m 94 #[.val (.int p1)] [(.int p1)])
                      refine own_go (fun t k => XS.bipush X0.here hx rfl (hb hby d1_94) k) ?_
                      show own_Go p e below _ T0 (mkF m 96 #[.val (.int p1)] [(.int (10 : Int32)), (.int p1)])
                      by_cases hc96 : p1 = (10 : Int32)
                      · show own_Go p e below _ T0 (mkF m 96 #[.val (.int p1)] [(.int (10 : Int32)), (.int p1)])
                        refine own_go (fun t k => XS.icmpNo X0.here hx rfl (hb hby d1_96) rfl (XT.ii_ne_f hc96) k) ?_
                        show own_Go p e below _ T0 (mkF m 99 #[.val (.int p1)] [])
                        obtain ⟨T11, X11, e11, st11⟩ := getS2 X0 hx hZ hown (host := "") (Or.inl (own_w hw 25 rfl)) Via.refl e0 S_NOT_EQUAL (g := (mkF m 99 #[.val (.int p1)] [])) rfl (hb hby d1_99)
                        refine own_go st11 ?_
                        show own_Go p e below _ T11 (mkF m 102 #[.val (.int p1)] [(.ref a_NOT_EQUAL)])
                        refine own_retA X11 hx hlk hret (hb hby d1_102) rfl rfl (by decide) (by decide) ?_
                        exact ⟨⟨a_NOT_EQUAL, (5 : Int32), rfl, E_NOT_EQUAL, F_NOT_EQUAL_binding, by rw [hc96]; decide⟩, N0, e11⟩
                      · show own_Go p e below _ T0 (mkF m 96 #[.val (.int p1)] [(.int (10 : Int32)), (.int p1)])
                        refine own_go (fun t k => XS.icmpYes X0.here hx rfl (pc0 := 96) (pc' := 103) rfl (hb hby d1_96) rfl (XT.ii_ne_t hc96) (by decide) (by decide) k) ?_
                        show own_Go p e below _ T0 (mkF m 103 #[.val (.int p1)] [])
                        refine own_go (fun t k => XS.iloadN X0.here hx rfl (hb hby d1_103) rfl k) ?_
                        show own_Go p e below _ T0 (mkF m 104 #[.val (.int p1)] [(.int p1)])
                        refine own_go (fun t k => XS.bipush X0.here hx rfl (hb hby d1_104) k) ?_
                        show own_Go p e below _ T0 (mkF m 106 #[.val (.int p1)] [(.int (11 : Int32)), (.int p1)])
                        by_cases hc106 : p1 = (11 : Int32)
                        · show own_Go p e below _ T0 (mkF m 106 #[.val (.int p1)] [(.int (11 : Int32)), (.int p1)])
                          refine own_go (fun t k => XS.icmpNo X0.here hx rfl (hb hby d1_106) rfl (XT.ii_ne_f hc106) k) ?_
                          show own_Go p e below _ T0 (mkF m 109 #[.val (.int p1)] [])
                          obtain ⟨T12, X12, e12, st12⟩ := getS2 X0 hx hZ hown (host := "") (Or.inl (own_w hw 23 rfl)) Via.refl e0 S_LESS (g := (mkF m 109 #[.val (.int p1)] [])) rfl (hb hby d1_109)
                          refine own_go st12 ?_
                          show own_Go p e below _ T12 (mkF m 112 #[.val (.int p1)] [(.ref a_LESS)])
                          refine own_retA X12 hx hlk hret (hb hby d1_112) rfl rfl (by decide) (by decide) ?_
                          exact ⟨⟨a_LESS, (5 : Int32), rfl, E_LESS, F_LESS_binding, by rw [hc106]; decide⟩, N0, e12⟩
                        · show own_Go p e below _ T0 (mkF m 106 #[.val (.int p1)] [(.int (11 : Int32)), (.int p1)])
                          refine own_go (fun t k => XS.icmpYes X0.here hx rfl (pc0 := 106) (pc' := 113) rfl (hb hby d1_106) rfl (XT.ii_ne_t hc106) (by decide) (by decide) k) ?_
                          show own_Go p e below _ T0 (mkF m 113 #[.val (.int p1)] [])
                          refine own_go (fun t k => XS.iloadN X0.here hx rfl (hb hby d1_113) rfl k) ?_
                          show own_Go p e below _ T0 (mkF m 114 #[.val (.int p1)] [(.int p1)])
                          refine own_go (fun t k => XS.bipush X0.here hx rfl (hb hby d1_114) k) ?_
                          show own_Go p e below _ T0 (mkF m 116 #[.val (.int p1)] [(.int (12 : Int32)), (.int p1)])
                          by_cases hc116 : p1 = (12 : Int32)
                          · show own_Go p e below _ T0 (mkF m 116 #[.val (.int p1)] [(.int (12 : Int32)), (.int p1)])
                            refine own_go (fun t k => XS.icmpNo X0.here hx rfl (hb hby d1_116) rfl (XT.ii_ne_f hc116) k) ?_
                            show own_Go p e below _ T0 (mkF m 119 #[.val (.int p1)] [])
                            obtain ⟨T13, X13, e13, st13⟩ := getS2 X0 hx hZ hown (host := "") (Or.inl (own_w hw 49 rfl)) Via.refl e0 S_LESS_EQUAL (g := (mkF m 119 #[.val (.int p1)] [])) rfl (hb hby d1_119)
                            refine own_go st13 ?_
                            show own_Go p e below _ T13 (mkF m 122 #[.val (.int p1)] [(.ref a_LESS_EQUAL)])
                            refine own_retA X13 hx hlk hret (hb hby d1_122) rfl rfl (by decide) (by decide) ?_
                            exact ⟨⟨a_LESS_EQUAL, (5 : Int32), rfl, E_LESS_EQUAL, F_LESS_EQUAL_binding, by rw [hc116]; decide⟩, N0, e13⟩
                          · show own_Go p e below _ T0 (mkF m 116 #[.val (.int p1)] [(.int (12 : Int32)), (.int p1)])
                            refine own_go (fun t k => XS.icmpYes X0.here hx rfl (pc0 := 116) (pc' := 123) rfl (hb hby d1_116) rfl (XT.ii_ne_t hc116) (by decide) (by decide) k) ?_
                            show own_Go p e below _ T0 (mkF m 123 #[.val (.int p1)] [])
                            refine own_go (fun t k => XS.iloadN X0.here hx rfl (hb hby d1_123) rfl k) ?_
                            show own_Go p e below _ T0 (mkF m 124 #[.val (.int p1)] [(.int p1)])
                            refine own_go (fun t k => XS.bipush X0.here hx rfl (hb hby d1_124) k) ?_
                            show own_Go p e below _ T0 (mkF m 126 #[.val (.int p1)] [(.int (13 : Int32)), (.int p1)])
                            by_cases hc126 : p1 = (13 : Int32)
                            · show own_Go p e below _ T0 (mkF m 126 #[.val (.int p1)] [(.int (13 : Int32)), (.int p1)])
                              refine own_go (fun t k => XS.icmpNo X0.here hx rfl (hb hby d1_126) rfl (XT.ii_ne_f hc126) k) ?_
                              show own_Go p e below _ T0 (mkF m 129 #[.val (.int p1)] [])
                              obtain ⟨T14, X14, e14, st14⟩ := getS2 X0 hx hZ hown (host := "") (Or.inl (own_w hw 51 rfl)) Via.refl e0 S_GREATER (g := (mkF m 129 #[.val (.int p1)] [])) rfl (hb hby d1_129)
                              refine own_go st14 ?_
                              show own_Go p e below _ T14 (mkF m 132 #[.val (.int p1)] [(.ref a_GREATER)])
                              refine own_retA X14 hx hlk hret (hb hby d1_132) rfl rfl (by decide) (by decide) ?_
                              exact ⟨⟨a_GREATER, (5 : Int32), rfl, E_GREATER, F_GREATER_binding, by rw [hc126]; decide⟩, N0, e14⟩
                            · show own_Go p e below _ T0 (mkF m 126 #[.val (.int p1)] [(.int (13 : Int32)), (.int p1)])
                              refine own_go (fun t k => XS.icmpYes X0.here hx rfl (pc0 := 126) (pc' := 133) rfl (hb hby d1_126) rfl (XT.ii_ne_t hc126) (by decide) (by decide) k) ?_
                              show own_Go p e below _ T0 (mkF m 133 #[.val (.int p1)] [])
                              refine own_go (fun t k => XS.iloadN X0.here hx rfl (hb hby d1_133) rfl k) ?_
                              show own_Go p e below _ T0 (mkF m 134 #[.val (.int p1)] [(.int p1)])
                              refine own_go (fun t k => XS.bipush X0.here hx rfl (hb hby d1_134) k) ?_
                              show own_Go p e below _ T0 (mkF m 136 #[.val (.int p1)] [(.int (14 : Int32)), (.int p1)])
                              by_cases hc136 : p1 = (14 : Int32)
                              · show own_Go p e below _ T0 (mkF m 136 #[.val (.int p1)] [(.int (14 : Int32)), (.int p1)])
                                refine own_go (fun t k => XS.icmpNo X0.here hx rfl (hb hby d1_136) rfl (XT.ii_ne_f hc136) k) ?_
                                show own_Go p e below _ T0 (mkF m 139 #[.val (.int p1)] [])
                                obtain ⟨T15, X15, e15, st15⟩ := getS2 X0 hx hZ hown (host := "") (Or.inl (own_w hw 47 rfl)) Via.refl e0 S_GREATER_EQUAL (g := (mkF m 139 #[.val (.int p1)] [])) rfl (hb hby d1_139)
                                refine own_go st15 ?_
                                show own_Go p e below _ T15 (mkF m 142 #[.val (.int p1)] [(.ref a_GREATER_EQUAL)])
                                refine own_retA X15 hx hlk hret (hb hby d1_142) rfl rfl (by decide) (by decide) ?_
                                exact ⟨⟨a_GREATER_EQUAL, (5 : Int32), rfl, E_GREATER_EQUAL, F_GREATER_EQUAL_binding, by rw [hc136]; decide⟩, N0, e15⟩
                              · show own_Go p e below _ T0 (mkF m 136 #[.val (.int p1)] [(.int (14 : Int32)), (.int p1)])
                                refine own_go (fun t k => XS.icmpYes X0.here hx rfl (pc0 := 136) (pc' := 143) rfl (hb hby d1_136) rfl (XT.ii_ne_t hc136) (by decide) (by decide) k) ?_
                                show own_Go p e below _ T0 (mkF m 143 #[.val (.int p1)] [])
                                refine own_go (fun t k => XS.iloadN X0.here hx rfl (hb hby d1_143) rfl k) ?_
                                show own_Go p e below _ T0 (mkF m 144 #[.val (.int p1)] [(.int p1)])
                                refine own_go (fun t k => XS.bipush X0.here hx rfl (hb hby d1_144) k) ?_
                                show own_Go p e below _ T0 (mkF m 146 #[.val (.int p1)] [(.int (15 : Int32)), (.int p1)])
                                by_cases hc146 : p1 = (15 : Int32)
                                · show own_Go p e below _ T0 (mkF m 146 #[.val (.int p1)] [(.int (15 : Int32)), (.int p1)])
                                  refine own_go (fun t k => XS.icmpNo X0.here hx rfl (hb hby d1_146) rfl (XT.ii_ne_f hc146) k) ?_
                                  show own_Go p e below _ T0 (mkF m 149 #[.val (.int p1)] [])
                                  obtain ⟨T16, X16, e16, st16⟩ := getS2 X0 hx hZ hown (host := "") (Or.inl (own_w hw 41 rfl)) Via.refl e0 S_AND (g := (mkF m 149 #[.val (.int p1)] [])) rfl (hb hby d1_149)
                                  refine own_go st16 ?_
                                  show own_Go p e below _ T16 (mkF m 152 #[.val (.int p1)] [(.ref a_AND)])
                                  refine own_retA X16 hx hlk hret (hb hby d1_152) rfl rfl (by decide) (by decide) ?_
                                  exact ⟨⟨a_AND, (4 : Int32), rfl, E_AND, F_AND_binding, by rw [hc146]; decide⟩, N0, e16⟩
                                · show own_Go p e below _ T0 (mkF m 146 #[.val (.int p1)] [(.int (15 : Int32)), (.int p1)])
                                  refine own_go (fun t k => XS.icmpYes X0.here hx rfl (pc0 := 146) (pc' := 153) rfl (hb hby d1_146) rfl (XT.ii_ne_t hc146) (by decide) (by decide) k) ?_
                                  show own_Go p e below _ T0 (mkF m 153 #[.val (.int p1)] [])
                                  refine own_go (fun t k => XS.iloadN X0.here hx rfl (hb hby d1_153) rfl k) ?_
                                  show own_Go p e below _ T0 (mkF m 154 #[.val (.int p1)] [(.int p1)])
                                  refine own_go (fun t k => XS.bipush X0.here hx rfl (hb hby d1_154) k) ?_
                                  show own_Go p e below _ T0 (mkF m 156 #[.val (.int p1)] [(.int (16 : Int32)), (.int p1)])
                                  by_cases hc156 : p1 = (16 : Int32)
                                  · show own_Go p e below _ T0 (mkF m 156 #[.val (.int p1)] [(.int (16 : Int32)), (.int p1)])
                                    refine own_go (fun t k => XS.icmpNo X0.here hx rfl (hb hby d1_156) rfl (XT.ii_ne_f hc156) k) ?_
                                    show own_Go p e below _ T0 (mkF m 159 #[.val (.int p1)] [])
                                    obtain ⟨T17, X17, e17, st17⟩ := getS2 X0 hx hZ hown (host := "") (Or.inl (own_w hw 33 rfl)) Via.refl e0 S_OR (g := (mkF m 159 #[.val (.int p1)] [])) rfl (hb hby d1_159)
                                    refine own_go st17 ?_
                                    show own_Go p e below _ T17 (mkF m 162 #[.val (.int p1)] [(.ref a_OR)])
                                    refine own_retA X17 hx hlk hret (hb hby d1_162) rfl rfl (by decide) (by decide) ?_
                                    exact ⟨⟨a_OR, (3 : Int32), rfl, E_OR, F_OR_binding, by rw [hc156]; decide⟩, N0, e17⟩
                                  · show own_Go p e below _ T0 (mkF m 156 #[.val (.int p1)] [(.int (16 : Int32)), (.int p1)])
                                    refine own_go (fun t k => XS.icmpYes X0.here hx rfl (pc0 := 156) (pc' := 163) rfl (hb hby d1_156) rfl (XT.ii_ne_t hc156) (by decide) (by decide) k) ?_
                                    show own_Go p e below _ T0 (mkF m 163 #[.val (.int p1)] [])
                                    refine own_go (fun t k => XS.iloadN X0.here hx rfl (hb hby d1_163) rfl k) ?_
                                    show own_Go p e below _ T0 (mkF m 164 #[.val (.int p1)] [(.int p1)])
                                    refine own_go (fun t k => XS.bipush X0.here hx rfl (hb hby d1_164) k) ?_
                                    show own_Go p e below _ T0 (mkF m 166 #[.val (.int p1)] [(.int (17 : Int32)), (.int p1)])
                                    by_cases hc166 : p1 = (17 : Int32)
                                    · show own_Go p e below _ T0 (mkF m 166 #[.val (.int p1)] [(.int (17 : Int32)), (.int p1)])
                                      refine own_go (fun t k => XS.icmpNo X0.here hx rfl (hb hby d1_166) rfl (XT.ii_ne_f hc166) k) ?_
                                      show own_Go p e below _ T0 (mkF m 169 #[.val (.int p1)] [])
                                      obtain ⟨T18, X18, e18, st18⟩ := getS2 X0 hx hZ hown (host := "") (Or.inl (own_w hw 53 rfl)) Via.refl e0 S_XOR (g := (mkF m 169 #[.val (.int p1)] [])) rfl (hb hby d1_169)
                                      refine own_go st18 ?_
                                      show own_Go p e below _ T18 (mkF m 172 #[.val (.int p1)] [(.ref a_XOR)])
                                      refine own_retA X18 hx hlk hret (hb hby d1_172) rfl rfl (by decide) (by decide) ?_
                                      exact ⟨⟨a_XOR, (3 : Int32), rfl, E_XOR, F_XOR_binding, by rw [hc166]; decide⟩, N0, e18⟩
                                    · show own_Go p e below _ T0 (mkF m 166 #[.val (.int p1)] [(.int (17 : Int32)), (.int p1)])
                                      refine own_go (fun t k => XS.icmpYes X0.here hx rfl (pc0 := 166) (pc' := 173) rfl (hb hby d1_166) rfl (XT.ii_ne_t hc166) (by decide) (by decide) k) ?_
                                      show own_Go p e below _ T0 (mkF m 173 #[.val (.int p1)] [])
                                      refine own_go (fun t k => XS.iloadN X0.here hx rfl (hb hby d1_173) rfl k) ?_
                                      show own_Go p e below _ T0 (mkF m 174 #[.val (.int p1)] [(.int p1)])
                                      refine own_go (fun t k => XS.bipush X0.here hx rfl (hb hby d1_174) k) ?_
                                      show own_Go p e below _ T0 (mkF m 176 #[.val (.int p1)] [(.int (18 : Int32)), (.int p1)])
                                      by_cases hc176 : p1 = (18 : Int32)
                                      · show own_Go p e below _ T0 (mkF m 176 #[.val (.int p1)] [(.int (18 : Int32)), (.int p1)])
                                        refine own_go (fun t k => XS.icmpNo X0.here hx rfl (hb hby d1_176) rfl (XT.ii_ne_f hc176) k) ?_
                                        show own_Go p e below _ T0 (mkF m 179 #[.val (.int p1)] [])
                                        obtain ⟨T19, X19, e19, st19⟩ := getS2 X0 hx hZ hown (host := "") (Or.inl (own_w hw 39 rfl)) Via.refl e0 S_IFF (g := (mkF m 179 #[.val (.int p1)] [])) rfl (hb hby d1_179)
                                        refine own_go st19 ?_
                                        show own_Go p e below _ T19 (mkF m 182 #[.val (.int p1)] [(.ref a_IFF)])
                                        refine own_retA X19 hx hlk hret (hb hby d1_182) rfl rfl (by decide) (by decide) ?_
                                        exact ⟨⟨a_IFF, (2 : Int32), rfl, E_IFF, F_IFF_binding, by rw [hc176]; decide⟩, N0, e19⟩
                                      · show own_Go p e below _ T0 (mkF m 176 #[.val (.int p1)] [(.int (18 : Int32)), (.int p1)])
                                        refine own_go (fun t k => XS.icmpYes X0.here hx rfl (pc0 := 176) (pc' := 183) rfl (hb hby d1_176) rfl (XT.ii_ne_t hc176) (by decide) (by decide) k) ?_
                                        show own_Go p e below _ T0 (mkF m 183 #[.val (.int p1)] [])
                                        refine own_go (fun t k => XS.iloadN X0.here hx rfl (hb hby d1_183) rfl k) ?_
                                        show own_Go p e below _ T0 (mkF m 184 #[.val (.int p1)] [(.int p1)])
                                        refine own_go (fun t k => XS.bipush X0.here hx rfl (hb hby d1_184) k) ?_
                                        show own_Go p e below _ T0 (mkF m 186 #[.val (.int p1)] [(.int (19 : Int32)), (.int p1)])
                                        by_cases hc186 : p1 = (19 : Int32)
                                        · show own_Go p e below _ T0 (mkF m 186 #[.val (.int p1)] [(.int (19 : Int32)), (.int p1)])
                                          refine own_go (fun t k => XS.icmpNo X0.here hx rfl (hb hby d1_186) rfl (XT.ii_ne_f hc186) k) ?_
                                          show own_Go p e below _ T0 (mkF m 189 #[.val (.int p1)] [])
                                          obtain ⟨T20, X20, e20, st20⟩ := getS2 X0 hx hZ hown (host := "") (Or.inl (own_w hw 37 rfl)) Via.refl e0 S_IMPLIES (g := (mkF m 189 #[.val (.int p1)] [])) rfl (hb hby d1_189)
                                          refine own_go st20 ?_
                                          show own_Go p e below _ T20 (mkF m 192 #[.val (.int p1)] [(.ref a_IMPLIES)])
                                          refine own_retA X20 hx hlk hret (hb hby d1_192) rfl rfl (by decide) (by decide) ?_
                                          exact ⟨⟨a_IMPLIES, (1 : Int32), rfl, E_IMPLIES, F_IMPLIES_binding, by rw [hc186]; decide⟩, N0, e20⟩
                                        · show own_Go p e below _ T0 (mkF m 186 #[.val (.int p1)] [(.int (19 : Int32)), (.int p1)])
                                          refine own_go (fun t k => XS.icmpYes X0.here hx rfl (pc0 := 186) (pc' := 193) rfl (hb hby d1_186) rfl (XT.ii_ne_t hc186) (by decide) (by decide) k) ?_
                                          show own_Go p e below _ T0 (mkF m 193 #[.val (.int p1)] [])
                                          refine own_go (fun t k => XS.iloadN X0.here hx rfl (hb hby d1_193) rfl k) ?_
                                          show own_Go p e below _ T0 (mkF m 194 #[.val (.int p1)] [(.int p1)])
                                          refine own_go (fun t k => XS.bipush X0.here hx rfl (hb hby d1_194) k) ?_
                                          show own_Go p e below _ T0 (mkF m 196 #[.val (.int p1)] [(.int (20 : Int32)), (.int p1)])
                                          by_cases hc196 : p1 = (20 : Int32)
                                          · show own_Go p e below _ T0 (mkF m 196 #[.val (.int p1)] [(.int (20 : Int32)), (.int p1)])
                                            refine own_go (fun t k => XS.icmpNo X0.here hx rfl (hb hby d1_196) rfl (XT.ii_ne_f hc196) k) ?_
                                            show own_Go p e below _ T0 (mkF m 199 #[.val (.int p1)] [])
                                            obtain ⟨T21, X21, e21, st21⟩ := getS2 X0 hx hZ hown (host := "") (Or.inl (own_w hw 55 rfl)) Via.refl e0 S_CASE (g := (mkF m 199 #[.val (.int p1)] [])) rfl (hb hby d1_199)
                                            refine own_go st21 ?_
                                            show own_Go p e below _ T21 (mkF m 202 #[.val (.int p1)] [(.ref a_CASE)])
                                            refine own_retA X21 hx hlk hret (hb hby d1_202) rfl rfl (by decide) (by decide) ?_
                                            exact ⟨⟨a_CASE, (9 : Int32), rfl, E_CASE, F_CASE_binding, by rw [hc196]; decide⟩, N0, e21⟩
                                          · show own_Go p e below _ T0 (mkF m 196 #[.val (.int p1)] [(.int (20 : Int32)), (.int p1)])
                                            refine own_go (fun t k => XS.icmpYes X0.here hx rfl (pc0 := 196) (pc' := 203) rfl (hb hby d1_196) rfl (XT.ii_ne_t hc196) (by decide) (by decide) k) ?_
                                            show own_Go p e below _ T0 (mkF m 203 #[.val (.int p1)] [])
                                            obtain ⟨T22, X22, e22, st22⟩ := getS2 X0 hx hZ hown (host := "") (Or.inl (own_w hw 45 rfl)) Via.refl e0 S_SET (g := (mkF m 203 #[.val (.int p1)] [])) rfl (hb hby d1_203)
                                            refine own_go st22 ?_
                                            show own_Go p e below _ T22 (mkF m 206 #[.val (.int p1)] [(.ref a_SET)])
                                            refine own_retA X22 hx hlk hret (hb hby d1_206) rfl rfl (by decide) (by decide) ?_
                                            exact ⟨⟨a_SET, (9 : Int32), rfl, E_SET, F_SET_binding, own_last p1 hc46 hc56 hc66 hc76 hc86 hc96 hc106 hc116 hc126 hc136 hc146 hc156 hc166 hc176 hc186⟩, N0, e22⟩
set_option maxRecDepth 65536 in
set_option maxHeartbeats 40000000 in
theorem rm2 (l : Launch) (Z : State) (a0 : Array Value) (hw : ∀ d ∈ tables_1, d.before a0 Z = true) (ws : List Jvm.Cond) (a1 : Addr) (k1 : Int32) (h0 : Heap) (n0 : Nat) (Z0 : n0 ≤ h0.size) (F1 : Fld Z h0 a1 "com/example/forking_paths/forkingpaths/io/SmvExpression$Op" "binding" "I" (.int k1)) :
    own_Met l Z (⟨"com/example/forking_paths/forkingpaths/io/SmvExpression$Op", "isBinary", "()Z"⟩ : MethodName) prog_44_method_6_code 1 (some .boolean) ws ({ frames := 0, cells := 0, slots := 0, locals := 0 } : Room) #[(.ref a1)] h0 (fun v h L => v = some (.int (if k1 < (8 : Int32) then 1 else 0)) ∧ Fr n0 L ∧ h = h0) := by
  refine own_body (by first | exact plainFor_of_name pn_com_example_forking_paths_forkingpaths_io_SmvExpression_Op | decide +kernel) ?_
  intro p e s m below meth c T0 X0 hx hby hml hret hlk hZ hown hnm e0
  have hown : s.vm.findClass "com/example/forking_paths/forkingpaths/io/SmvExpression$Op" = some m.cls := hown
  have hnm : meth.name = "isBinary" := hnm
  have N0 := Fr.nil n0
  rw [ef_2 m a1]
  show own_Go p e below _ T0 (mkF m 0 #[.val (.ref a1)] [])
  refine own_go (fun t k => XS.aloadN X0.here hx rfl (hb hby d2_0) rfl rfl k) ?_
  show own_Go p e below _ T0 (mkF m 1 #[.val (.ref a1)] [(.ref a1)])
  obtain ⟨T1, X1, e1, st1⟩ := getF X0 hx hZ hown (host := "") (Or.inl (own_w hw 13 rfl)) Via.refl e0 F1 (g := (mkF m 1 #[.val (.ref a1)] [(.ref a1)])) rfl rfl (hb hby d2_1)
  refine own_go st1 ?_
  show own_Go p e below _ T1 (mkF m 4 #[.val (.ref a1)] [(.int k1)])
  refine own_go (fun t k => XS.bipush X1.here hx rfl (hb hby d2_4) k) ?_
  show own_Go p e below _ T1 (mkF m 6 #[.val (.ref a1)] [(.int (8 : Int32)), (.int k1)])
  by_cases hc6 : k1 < (8 : Int32)
  · show own_Go p e below _ T1 (mkF m 6 #[.val (.ref a1)] [(.int (8 : Int32)), (.int k1)])
    refine own_go (fun t k => XS.icmpNo X1.here hx rfl (hb hby d2_6) rfl (XT.ii_ge_f hc6) k) ?_
    show own_Go p e below _ T1 (mkF m 9 #[.val (.ref a1)] [])
    refine own_go (fun t k => XS.iconst X1.here hx rfl (hb hby d2_9) k) ?_
    show own_Go p e below _ T1 (mkF m 10 #[.val (.ref a1)] [(.int (1 : Int32))])
    refine own_go (fun t k => XS.goto X1.here hx rfl (pc0 := 10) (pc' := 14) rfl (hb hby d2_10) (by decide) (by decide) k) ?_
    show own_Go p e below _ T1 (mkF m 14 #[.val (.ref a1)] [(.int (1 : Int32))])
    refine own_retZ X1 hx hlk hret (hb hby d2_14) (Or.inr rfl) (by decide) (by decide) ?_
    exact ⟨by rw [if_pos hc6], N0, e1⟩
  · show own_Go p e below _ T1 (mkF m 6 #[.val (.ref a1)] [(.int (8 : Int32)), (.int k1)])
    refine own_go (fun t k => XS.icmpYes X1.here hx rfl (pc0 := 6) (pc' := 13) rfl (hb hby d2_6) rfl (XT.ii_ge_t hc6) (by decide) (by decide) k) ?_
    show own_Go p e below _ T1 (mkF m 13 #[.val (.ref a1)] [])
    refine own_go (fun t k => XS.iconst X1.here hx rfl (hb hby d2_13) k) ?_
    show own_Go p e below _ T1 (mkF m 14 #[.val (.ref a1)] [(.int (0 : Int32))])
    refine own_retZ X1 hx hlk hret (hb hby d2_14) (Or.inl rfl) (by decide) (by decide) ?_
    exact ⟨by rw [if_neg hc6], N0, e1⟩
set_option maxRecDepth 65536 in
set_option maxHeartbeats 40000000 in
theorem rm0 (l : Launch) (Z : State) (a0 : Array Value) (hw : ∀ d ∈ tables_1, d.before a0 Z = true) (ws : List Jvm.Cond) (p1 : Int32) (a_NUMBER : Addr) (a_NOT : Addr) (a_PLUS : Addr) (a_MINUS : Addr) (a_NAME : Addr) (a_LESS : Addr) (a_NOT_EQUAL : Addr) (a_BOOLEAN : Addr) (a_EQUAL : Addr) (a_TIMES : Addr) (a_OR : Addr) (a_MOD : Addr) (a_IMPLIES : Addr) (a_IFF : Addr) (a_AND : Addr) (a_NEGATE : Addr) (a_SET : Addr) (a_GREATER_EQUAL : Addr) (a_LESS_EQUAL : Addr) (a_GREATER : Addr) (a_XOR : Addr) (a_CASE : Addr) (h0 : Heap) (n0 : Nat) (Z0 : n0 ≤ h0.size) (S_NUMBER : Sta Z h0 "com/example/forking_paths/forkingpaths/io/SmvExpression$Op" "NUMBER" "Lcom/example/forking_paths/forkingpaths/io/SmvExpression$Op;" (.ref a_NUMBER)) (E_NUMBER : Exa Z h0 a_NUMBER "com/example/forking_paths/forkingpaths/io/SmvExpression$Op") (S_NOT : Sta Z h0 "com/example/forking_paths/forkingpaths/io/SmvExpression$Op" "NOT" "Lcom/example/forking_paths/forkingpaths/io/SmvExpression$Op;" (.ref a_NOT)) (E_NOT : Exa Z h0 a_NOT "com/example/forking_paths/forkingpaths/io/SmvExpression$Op") (S_PLUS : Sta Z h0 "com/example/forking_paths/forkingpaths/io/SmvExpression$Op" "PLUS" "Lcom/example/forking_paths/forkingpaths/io/SmvExpression$Op;" (.ref a_PLUS)) (E_PLUS : Exa Z h0 a_PLUS "com/example/forking_paths/forkingpaths/io/SmvExpression$Op") (S_MINUS : Sta Z h0 "com/example/forking_paths/forkingpaths/io/SmvExpression$Op" "MINUS" "Lcom/example/forking_paths/forkingpaths/io/SmvExpression$Op;" (.ref a_MINUS)) (E_MINUS : Exa Z h0 a_MINUS "com/example/forking_paths/forkingpaths/io/SmvExpression$Op") (S_NAME : Sta Z h0 "com/example/forking_paths/forkingpaths/io/SmvExpression$Op" "NAME" "Lcom/example/forking_paths/forkingpaths/io/SmvExpression$Op;" (.ref a_NAME)) (E_NAME : Exa Z h0 a_NAME "com/example/forking_paths/forkingpaths/io/SmvExpression$Op") (S_LESS : Sta Z h0 "com/example/forking_paths/forkingpaths/io/SmvExpression$Op" "LESS" "Lcom/example/forking_paths/forkingpaths/io/SmvExpression$Op;" (.ref a_LESS)) (E_LESS : Exa Z h0 a_LESS "com/example/forking_paths/forkingpaths/io/SmvExpression$Op") (S_NOT_EQUAL : Sta Z h0 "com/example/forking_paths/forkingpaths/io/SmvExpression$Op" "NOT_EQUAL" "Lcom/example/forking_paths/forkingpaths/io/SmvExpression$Op;" (.ref a_NOT_EQUAL)) (E_NOT_EQUAL : Exa Z h0 a_NOT_EQUAL "com/example/forking_paths/forkingpaths/io/SmvExpression$Op") (S_BOOLEAN : Sta Z h0 "com/example/forking_paths/forkingpaths/io/SmvExpression$Op" "BOOLEAN" "Lcom/example/forking_paths/forkingpaths/io/SmvExpression$Op;" (.ref a_BOOLEAN)) (E_BOOLEAN : Exa Z h0 a_BOOLEAN "com/example/forking_paths/forkingpaths/io/SmvExpression$Op") (S_EQUAL : Sta Z h0 "com/example/forking_paths/forkingpaths/io/SmvExpression$Op" "EQUAL" "Lcom/example/forking_paths/forkingpaths/io/SmvExpression$Op;" (.ref a_EQUAL)) (E_EQUAL : Exa Z h0 a_EQUAL "com/example/forking_paths/forkingpaths/io/SmvExpression$Op") (S_TIMES : Sta Z h0 "com/example/forking_paths/forkingpaths/io/SmvExpression$Op" "TIMES" "Lcom/example/forking_paths/forkingpaths/io/SmvExpression$Op;" (.ref a_TIMES)) (E_TIMES : Exa Z h0 a_TIMES "com/example/forking_paths/forkingpaths/io/SmvExpression$Op") (S_OR : Sta Z h0 "com/example/forking_paths/forkingpaths/io/SmvExpression$Op" "OR" "Lcom/example/forking_paths/forkingpaths/io/SmvExpression$Op;" (.ref a_OR)) (E_OR : Exa Z h0 a_OR "com/example/forking_paths/forkingpaths/io/SmvExpression$Op") (S_MOD : Sta Z h0 "com/example/forking_paths/forkingpaths/io/SmvExpression$Op" "MOD" "Lcom/example/forking_paths/forkingpaths/io/SmvExpression$Op;" (.ref a_MOD)) (E_MOD : Exa Z h0 a_MOD "com/example/forking_paths/forkingpaths/io/SmvExpression$Op") (S_IMPLIES : Sta Z h0 "com/example/forking_paths/forkingpaths/io/SmvExpression$Op" "IMPLIES" "Lcom/example/forking_paths/forkingpaths/io/SmvExpression$Op;" (.ref a_IMPLIES)) (E_IMPLIES : Exa Z h0 a_IMPLIES "com/example/forking_paths/forkingpaths/io/SmvExpression$Op") (S_IFF : Sta Z h0 "com/example/forking_paths/forkingpaths/io/SmvExpression$Op" "IFF" "Lcom/example/forking_paths/forkingpaths/io/SmvExpression$Op;" (.ref a_IFF)) (E_IFF : Exa Z h0 a_IFF "com/example/forking_paths/forkingpaths/io/SmvExpression$Op") (S_AND : Sta Z h0 "com/example/forking_paths/forkingpaths/io/SmvExpression$Op" "AND" "Lcom/example/forking_paths/forkingpaths/io/SmvExpression$Op;" (.ref a_AND)) (E_AND : Exa Z h0 a_AND "com/example/forking_paths/forkingpaths/io/SmvExpression$Op") (S_NEGATE : Sta Z h0 "com/example/forking_paths/forkingpaths/io/SmvExpression$Op" "NEGATE" "Lcom/example/forking_paths/forkingpaths/io/SmvExpression$Op;" (.ref a_NEGATE)) (E_NEGATE : Exa Z h0 a_NEGATE "com/example/forking_paths/forkingpaths/io/SmvExpression$Op") (S_SET : Sta Z h0 "com/example/forking_paths/forkingpaths/io/SmvExpression$Op" "SET" "Lcom/example/forking_paths/forkingpaths/io/SmvExpression$Op;" (.ref a_SET)) (E_SET : Exa Z h0 a_SET "com/example/forking_paths/forkingpaths/io/SmvExpression$Op") (S_GREATER_EQUAL : Sta Z h0 "com/example/forking_paths/forkingpaths/io/SmvExpression$Op" "GREATER_EQUAL" "Lcom/example/forking_paths/forkingpaths/io/SmvExpression$Op;" (.ref a_GREATER_EQUAL)) (E_GREATER_EQUAL : Exa Z h0 a_GREATER_EQUAL "com/example/forking_paths/forkingpaths/io/SmvExpression$Op") (S_LESS_EQUAL : Sta Z h0 "com/example/forking_paths/forkingpaths/io/SmvExpression$Op" "LESS_EQUAL" "Lcom/example/forking_paths/forkingpaths/io/SmvExpression$Op;" (.ref a_LESS_EQUAL)) (E_LESS_EQUAL : Exa Z h0 a_LESS_EQUAL "com/example/forking_paths/forkingpaths/io/SmvExpression$Op") (S_GREATER : Sta Z h0 "com/example/forking_paths/forkingpaths/io/SmvExpression$Op" "GREATER" "Lcom/example/forking_paths/forkingpaths/io/SmvExpression$Op;" (.ref a_GREATER)) (E_GREATER : Exa Z h0 a_GREATER "com/example/forking_paths/forkingpaths/io/SmvExpression$Op") (S_XOR : Sta Z h0 "com/example/forking_paths/forkingpaths/io/SmvExpression$Op" "XOR" "Lcom/example/forking_paths/forkingpaths/io/SmvExpression$Op;" (.ref a_XOR)) (E_XOR : Exa Z h0 a_XOR "com/example/forking_paths/forkingpaths/io/SmvExpression$Op") (S_CASE : Sta Z h0 "com/example/forking_paths/forkingpaths/io/SmvExpression$Op" "CASE" "Lcom/example/forking_paths/forkingpaths/io/SmvExpression$Op;" (.ref a_CASE)) (E_CASE : Exa Z h0 a_CASE "com/example/forking_paths/forkingpaths/io/SmvExpression$Op") (F_NUMBER_binding : Fld Z h0 a_NUMBER "com/example/forking_paths/forkingpaths/io/SmvExpression$Op" "binding" "I" (.int (9 : Int32))) (F_NOT_binding : Fld Z h0 a_NOT "com/example/forking_paths/forkingpaths/io/SmvExpression$Op" "binding" "I" (.int (8 : Int32))) (F_PLUS_binding : Fld Z h0 a_PLUS "com/example/forking_paths/forkingpaths/io/SmvExpression$Op" "binding" "I" (.int (6 : Int32))) (F_MINUS_binding : Fld Z h0 a_MINUS "com/example/forking_paths/forkingpaths/io/SmvExpression$Op" "binding" "I" (.int (6 : Int32))) (F_NAME_binding : Fld Z h0 a_NAME "com/example/forking_paths/forkingpaths/io/SmvExpression$Op" "binding" "I" (.int (9 : Int32))) (F_LESS_binding : Fld Z h0 a_LESS "com/example/forking_paths/forkingpaths/io/SmvExpression$Op" "binding" "I" (.int (5 : Int32))) (F_NOT_EQUAL_binding : Fld Z h0 a_NOT_EQUAL "com/example/forking_paths/forkingpaths/io/SmvExpression$Op" "binding" "I" (.int (5 : Int32))) (F_BOOLEAN_binding : Fld Z h0 a_BOOLEAN "com/example/forking_paths/forkingpaths/io/SmvExpression$Op" "binding" "I" (.int (9 : Int32))) (F_EQUAL_binding : Fld Z h0 a_EQUAL "com/example/forking_paths/forkingpaths/io/SmvExpression$Op" "binding" "I" (.int (5 : Int32))) (F_TIMES_binding : Fld Z h0 a_TIMES "com/example/forking_paths/forkingpaths/io/SmvExpression$Op" "binding" "I" (.int (7 : Int32))) (F_OR_binding : Fld Z h0 a_OR "com/example/forking_paths/forkingpaths/io/SmvExpression$Op" "binding" "I" (.int (3 : Int32))) (F_MOD_binding : Fld Z h0 a_MOD "com/example/forking_paths/forkingpaths/io/SmvExpression$Op" "binding" "I" (.int (7 : Int32))) (F_IMPLIES_binding : Fld Z h0 a_IMPLIES "com/example/forking_paths/forkingpaths/io/SmvExpression$Op" "binding" "I" (.int (1 : Int32))) (F_IFF_binding : Fld Z h0 a_IFF "com/example/forking_paths/forkingpaths/io/SmvExpression$Op" "binding" "I" (.int (2 : Int32))) (F_AND_binding : Fld Z h0 a_AND "com/example/forking_paths/forkingpaths/io/SmvExpression$Op" "binding" "I" (.int (4 : Int32))) (F_NEGATE_binding : Fld Z h0 a_NEGATE "com/example/forking_paths/forkingpaths/io/SmvExpression$Op" "binding" "I" (.int (8 : Int32))) (F_SET_binding : Fld Z h0 a_SET "com/example/forking_paths/forkingpaths/io/SmvExpression$Op" "binding" "I" (.int (9 : Int32))) (F_GREATER_EQUAL_binding : Fld Z h0 a_GREATER_EQUAL "com/example/forking_paths/forkingpaths/io/SmvExpression$Op" "binding" "I" (.int (5 : Int32))) (F_LESS_EQUAL_binding : Fld Z h0 a_LESS_EQUAL "com/example/forking_paths/forkingpaths/io/SmvExpression$Op" "binding" "I" (.int (5 : Int32))) (F_GREATER_binding : Fld Z h0 a_GREATER "com/example/forking_paths/forkingpaths/io/SmvExpression$Op" "binding" "I" (.int (5 : Int32))) (F_XOR_binding : Fld Z h0 a_XOR "com/example/forking_paths/forkingpaths/io/SmvExpression$Op" "binding" "I" (.int (3 : Int32))) (F_CASE_binding : Fld Z h0 a_CASE "com/example/forking_paths/forkingpaths/io/SmvExpression$Op" "binding" "I" (.int (9 : Int32))) :
    own_Met l Z x code maxLocals ret ws room_1 #[(.int p1)] h0 (fun v h L => v = some (.int 1) ∧ Fr n0 L) := by
  refine own_body (by first | exact plainFor_of_name pn_com_example_forking_paths_forkingpaths_io_OpIsBinaryPinLaw | decide +kernel) ?_
  intro p e s m below meth c T0 X0 hx hby hml hret hlk hZ hown hnm e0
  have hown : s.vm.findClass "com/example/forking_paths/forkingpaths/io/OpIsBinaryPinLaw" = some m.cls := hown
  have hnm : meth.name = "law" := hnm
  have N0 := Fr.nil n0
  rw [ef_0 m p1]
  show own_Go p e below _ T0 (mkF m 0 #[.val (.int p1), .unset, .unset, .unset] [])
  refine own_go (fun t k => XS.iloadN X0.here hx rfl (hb hby at_0) rfl k) ?_
  show own_Go p e below _ T0 (mkF m 1 #[.val (.int p1), .unset, .unset, .unset] [(.int p1)])
  refine own_go (fun t k => X0.ldcInt hx hown (mvT hZ (own_w hw 0 rfl)) (g := (mkF m 1 #[.val (.int p1), .unset, .unset, .unset] [(.int p1)])) rfl (hb hby at_1) t k) ?_
  show own_Go p e below _ T0 (mkF m 3 #[.val (.int p1), .unset, .unset, .unset] [(.int (2147483647 : Int32)), (.int p1)])
  refine own_go (fun t k => XS.iand X0.here hx rfl (hb hby at_3) rfl k) ?_
  show own_Go p e below _ T0 (mkF m 4 #[.val (.int p1), .unset, .unset, .unset] [(.int (p1 &&& (2147483647 : Int32)))])
  refine own_go (fun t k => XS.bipush X0.here hx rfl (hb hby at_4) k) ?_
  show own_Go p e below _ T0 (mkF m 6 #[.val (.int p1), .unset, .unset, .unset] [(.int (22 : Int32)), (.int (p1 &&& (2147483647 : Int32)))])
  refine own_go (fun t k => iremM X0 hx rfl (hb hby at_6) rfl (by decide) k) ?_
  show own_Go p e below _ T0 (mkF m 7 #[.val (.int p1), .unset, .unset, .unset] [(.int ((p1 &&& (2147483647 : Int32)) % (22 : Int32)))])
  generalize ((p1 &&& (2147483647 : Int32)) % (22 : Int32)) = i
  show own_Go p e below _ T0 (mkF m 7 #[.val (.int p1), .unset, .unset, .unset] [(.int i)])
  refine own_go (fun t k => XS.istoreN X0.here hx rfl (hb hby at_7) rfl (l' := #[.val (.int p1), .val (.int i), .unset, .unset]) rfl k) ?_
  show own_Go p e below _ T0 (mkF m 8 #[.val (.int p1), .val (.int i), .unset, .unset] [])
  refine own_go (fun t k => XS.iloadN X0.here hx rfl (hb hby at_8) rfl k) ?_
  show own_Go p e below _ T0 (mkF m 9 #[.val (.int p1), .val (.int i), .unset, .unset] [(.int i)])
  obtain ⟨_, T1, L1, X1, ⟨⟨ap, kp, rfl, Ep, Fp, hp⟩, N1, e1⟩, st1⟩ := own_callS X0 hx hZ (y := (⟨"com/example/forking_paths/forkingpaths/io/OpIsBinaryPinLaw", "pick", "(I)Lcom/example/forking_paths/forkingpaths/io/SmvExpression$Op;"⟩ : MethodName)) (argsL := [(.int i)]) (rest := []) (Ls := #[.val (.int p1), .val (.int i), .unset, .unset]) hown (own_w hw 1 rfl) (own_w hw 2 rfl) (own_w hw 3 rfl) (own_w hw 4 rfl) (by decide) e0 (rm1 l Z a0 hw [] i a_NUMBER a_NOT a_PLUS a_MINUS a_NAME a_LESS a_NOT_EQUAL a_BOOLEAN a_EQUAL a_TIMES a_OR a_MOD a_IMPLIES a_IFF a_AND a_NEGATE a_SET a_GREATER_EQUAL a_LESS_EQUAL a_GREATER a_XOR a_CASE h0 n0 Z0 S_NUMBER E_NUMBER S_NOT E_NOT S_PLUS E_PLUS S_MINUS E_MINUS S_NAME E_NAME S_LESS E_LESS S_NOT_EQUAL E_NOT_EQUAL S_BOOLEAN E_BOOLEAN S_EQUAL E_EQUAL S_TIMES E_TIMES S_OR E_OR S_MOD E_MOD S_IMPLIES E_IMPLIES S_IFF E_IFF S_AND E_AND S_NEGATE E_NEGATE S_SET E_SET S_GREATER_EQUAL E_GREATER_EQUAL S_LESS_EQUAL E_LESS_EQUAL S_GREATER E_GREATER S_XOR E_XOR S_CASE E_CASE F_NUMBER_binding F_NOT_binding F_PLUS_binding F_MINUS_binding F_NAME_binding F_LESS_binding F_NOT_EQUAL_binding F_BOOLEAN_binding F_EQUAL_binding F_TIMES_binding F_OR_binding F_MOD_binding F_IMPLIES_binding F_IFF_binding F_AND_binding F_NEGATE_binding F_SET_binding F_GREATER_EQUAL_binding F_LESS_EQUAL_binding F_GREATER_binding F_XOR_binding F_CASE_binding) 0 (by decide) (by decide) (by decide) (by decide) (by rw [hml]; rfl) (lenOf pd_1 rfl) rfl (Nat.le_of_eq rfl) (hb hby at_9)
  have M1 := Fr.app N0 N1
  refine own_go st1 ?_
  show own_Go p e below _ T1 (mkF m 12 #[.val (.int p1), .val (.int i), .unset, .unset] [(.ref ap)])
  refine own_go (fun t k => XS.astoreN X1.here hx rfl (hb hby at_12) rfl rfl (l' := #[.val (.int p1), .val (.int i), .val (.ref ap), .unset]) rfl k) ?_
  show own_Go p e below _ T1 (mkF m 13 #[.val (.int p1), .val (.int i), .val (.ref ap), .unset] [])
  refine own_go (fun t k => XS.iloadN X1.here hx rfl (hb hby at_13) rfl k) ?_
  show own_Go p e below _ T1 (mkF m 14 #[.val (.int p1), .val (.int i), .val (.ref ap), .unset] [(.int i)])
  refine own_go (fun t k => XS.iconst X1.here hx rfl (hb hby at_14) k) ?_
  show own_Go p e below _ T1 (mkF m 15 #[.val (.int p1), .val (.int i), .val (.ref ap), .unset] [(.int (5 : Int32)), (.int i)])
  by_cases hc15 : i < (5 : Int32)
  · show own_Go p e below _ T1 (mkF m 15 #[.val (.int p1), .val (.int i), .val (.ref ap), .unset] [(.int (5 : Int32)), (.int i)])
    refine own_go (fun t k => XS.icmpYes X1.here hx rfl (pc0 := 15) (pc' := 28) rfl (hb hby at_15) rfl (XT.ii_lt_t hc15) (by decide) (by decide) k) ?_
    show own_Go p e below _ T1 (mkF m 28 #[.val (.int p1), .val (.int i), .val (.ref ap), .unset] [])
    refine own_go (fun t k => XS.iconst X1.here hx rfl (hb hby at_28) k) ?_
    show own_Go p e below _ T1 (mkF m 29 #[.val (.int p1), .val (.int i), .val (.ref ap), .unset] [(.int (0 : Int32))])
    refine own_go (fun t k => XS.istoreN X1.here hx rfl (hb hby at_29) rfl (l' := #[.val (.int p1), .val (.int i), .val (.ref ap), .val (.int (0 : Int32))]) rfl k) ?_
    show own_Go p e below _ T1 (mkF m 30 #[.val (.int p1), .val (.int i), .val (.ref ap), .val (.int (0 : Int32))] [])
    refine own_go (fun t k => XS.aloadN X1.here hx rfl (hb hby at_30) rfl rfl k) ?_
    show own_Go p e below _ T1 (mkF m 31 #[.val (.int p1), .val (.int i), .val (.ref ap), .val (.int (0 : Int32))] [(.ref ap)])
    obtain ⟨_, T2, L2, X2, ⟨rfl, N2, e2⟩, st2⟩ := own_callV X1 hx hZ (y := (⟨"com/example/forking_paths/forkingpaths/io/SmvExpression$Op", "isBinary", "()Z"⟩ : MethodName)) (z := (⟨"com/example/forking_paths/forkingpaths/io/SmvExpression$Op", "isBinary", "()Z"⟩ : MethodName)) (b := ap) (argsL := []) (rest := []) (Ls := #[.val (.int p1), .val (.int i), .val (.ref ap), .val (.int (0 : Int32))]) hown (own_w hw 8 rfl) (own_w hw 9 rfl) (own_w hw 11 rfl) (notFace_of_selects (args := #[]) (mvT hZ (own_w hw 11 rfl))) (own_w hw 10 rfl) (own_w hw 12 rfl) (own_w hw 6 rfl) (by decide) e1 Ep (rm2 l Z a0 hw [] ap kp h0 n0 Z0 Fp) 0 (by decide) (by decide) (by decide) (by decide) (by rw [hml]; rfl) (lenOf pd_0 rfl) rfl (Nat.le_of_eq rfl) (hb hby at_31)
    have M2 := Fr.app M1 N2
    refine own_go st2 ?_
    show own_Go p e below _ T2 (mkF m 34 #[.val (.int p1), .val (.int i), .val (.ref ap), .val (.int (0 : Int32))] [(.int (if kp < (8 : Int32) then 1 else 0))])
    refine own_go (fun t k => XS.iloadN X2.here hx rfl (hb hby at_34) rfl k) ?_
    show own_Go p e below _ T2 (mkF m 35 #[.val (.int p1), .val (.int i), .val (.ref ap), .val (.int (0 : Int32))] [(.int (0 : Int32)), (.int (if kp < (8 : Int32) then 1 else 0))])
    refine own_go (fun t k => XS.icmpNo X2.here hx rfl (hb hby at_35) rfl (XT.ii_ne_f (if_neg (fun q => absurd hc15 (Int32.not_lt.mpr (hp.mp q).1)))) k) ?_
    show own_Go p e below _ T2 (mkF m 38 #[.val (.int p1), .val (.int i), .val (.ref ap), .val (.int (0 : Int32))] [])
    refine own_go (fun t k => XS.iconst X2.here hx rfl (hb hby at_38) k) ?_
    show own_Go p e below _ T2 (mkF m 39 #[.val (.int p1), .val (.int i), .val (.ref ap), .val (.int (0 : Int32))] [(.int (1 : Int32))])
    refine own_go (fun t k => XS.goto X2.here hx rfl (pc0 := 39) (pc' := 43) rfl (hb hby at_39) (by decide) (by decide) k) ?_
    show own_Go p e below _ T2 (mkF m 43 #[.val (.int p1), .val (.int i), .val (.ref ap), .val (.int (0 : Int32))] [(.int (1 : Int32))])
    refine own_retZ X2 hx hlk hret (hb hby at_43) (Or.inr rfl) (by decide) (by decide) ?_
    exact ⟨rfl, M2⟩
  · show own_Go p e below _ T1 (mkF m 15 #[.val (.int p1), .val (.int i), .val (.ref ap), .unset] [(.int (5 : Int32)), (.int i)])
    refine own_go (fun t k => XS.icmpNo X1.here hx rfl (hb hby at_15) rfl (XT.ii_lt_f hc15) k) ?_
    show own_Go p e below _ T1 (mkF m 18 #[.val (.int p1), .val (.int i), .val (.ref ap), .unset] [])
    refine own_go (fun t k => XS.iloadN X1.here hx rfl (hb hby at_18) rfl k) ?_
    show own_Go p e below _ T1 (mkF m 19 #[.val (.int p1), .val (.int i), .val (.ref ap), .unset] [(.int i)])
    refine own_go (fun t k => XS.bipush X1.here hx rfl (hb hby at_19) k) ?_
    show own_Go p e below _ T1 (mkF m 21 #[.val (.int p1), .val (.int i), .val (.ref ap), .unset] [(.int (19 : Int32)), (.int i)])
    by_cases hc21 : (19 : Int32) < i
    · show own_Go p e below _ T1 (mkF m 21 #[.val (.int p1), .val (.int i), .val (.ref ap), .unset] [(.int (19 : Int32)), (.int i)])
      refine own_go (fun t k => XS.icmpYes X1.here hx rfl (pc0 := 21) (pc' := 28) rfl (hb hby at_21) rfl (XT.ii_gt_t hc21) (by decide) (by decide) k) ?_
      show own_Go p e below _ T1 (mkF m 28 #[.val (.int p1), .val (.int i), .val (.ref ap), .unset] [])
      refine own_go (fun t k => XS.iconst X1.here hx rfl (hb hby at_28) k) ?_
      show own_Go p e below _ T1 (mkF m 29 #[.val (.int p1), .val (.int i), .val (.ref ap), .unset] [(.int (0 : Int32))])
      refine own_go (fun t k => XS.istoreN X1.here hx rfl (hb hby at_29) rfl (l' := #[.val (.int p1), .val (.int i), .val (.ref ap), .val (.int (0 : Int32))]) rfl k) ?_
      show own_Go p e below _ T1 (mkF m 30 #[.val (.int p1), .val (.int i), .val (.ref ap), .val (.int (0 : Int32))] [])
      refine own_go (fun t k => XS.aloadN X1.here hx rfl (hb hby at_30) rfl rfl k) ?_
      show own_Go p e below _ T1 (mkF m 31 #[.val (.int p1), .val (.int i), .val (.ref ap), .val (.int (0 : Int32))] [(.ref ap)])
      obtain ⟨_, T3, L3, X3, ⟨rfl, N3, e3⟩, st3⟩ := own_callV X1 hx hZ (y := (⟨"com/example/forking_paths/forkingpaths/io/SmvExpression$Op", "isBinary", "()Z"⟩ : MethodName)) (z := (⟨"com/example/forking_paths/forkingpaths/io/SmvExpression$Op", "isBinary", "()Z"⟩ : MethodName)) (b := ap) (argsL := []) (rest := []) (Ls := #[.val (.int p1), .val (.int i), .val (.ref ap), .val (.int (0 : Int32))]) hown (own_w hw 8 rfl) (own_w hw 9 rfl) (own_w hw 11 rfl) (notFace_of_selects (args := #[]) (mvT hZ (own_w hw 11 rfl))) (own_w hw 10 rfl) (own_w hw 12 rfl) (own_w hw 6 rfl) (by decide) e1 Ep (rm2 l Z a0 hw [] ap kp h0 n0 Z0 Fp) 0 (by decide) (by decide) (by decide) (by decide) (by rw [hml]; rfl) (lenOf pd_0 rfl) rfl (Nat.le_of_eq rfl) (hb hby at_31)
      have M3 := Fr.app M1 N3
      refine own_go st3 ?_
      show own_Go p e below _ T3 (mkF m 34 #[.val (.int p1), .val (.int i), .val (.ref ap), .val (.int (0 : Int32))] [(.int (if kp < (8 : Int32) then 1 else 0))])
      refine own_go (fun t k => XS.iloadN X3.here hx rfl (hb hby at_34) rfl k) ?_
      show own_Go p e below _ T3 (mkF m 35 #[.val (.int p1), .val (.int i), .val (.ref ap), .val (.int (0 : Int32))] [(.int (0 : Int32)), (.int (if kp < (8 : Int32) then 1 else 0))])
      refine own_go (fun t k => XS.icmpNo X3.here hx rfl (hb hby at_35) rfl (XT.ii_ne_f (if_neg (fun q => absurd hc21 (Int32.not_lt.mpr (hp.mp q).2)))) k) ?_
      show own_Go p e below _ T3 (mkF m 38 #[.val (.int p1), .val (.int i), .val (.ref ap), .val (.int (0 : Int32))] [])
      refine own_go (fun t k => XS.iconst X3.here hx rfl (hb hby at_38) k) ?_
      show own_Go p e below _ T3 (mkF m 39 #[.val (.int p1), .val (.int i), .val (.ref ap), .val (.int (0 : Int32))] [(.int (1 : Int32))])
      refine own_go (fun t k => XS.goto X3.here hx rfl (pc0 := 39) (pc' := 43) rfl (hb hby at_39) (by decide) (by decide) k) ?_
      show own_Go p e below _ T3 (mkF m 43 #[.val (.int p1), .val (.int i), .val (.ref ap), .val (.int (0 : Int32))] [(.int (1 : Int32))])
      refine own_retZ X3 hx hlk hret (hb hby at_43) (Or.inr rfl) (by decide) (by decide) ?_
      exact ⟨rfl, M3⟩
    · show own_Go p e below _ T1 (mkF m 21 #[.val (.int p1), .val (.int i), .val (.ref ap), .unset] [(.int (19 : Int32)), (.int i)])
      refine own_go (fun t k => XS.icmpNo X1.here hx rfl (hb hby at_21) rfl (XT.ii_gt_f hc21) k) ?_
      show own_Go p e below _ T1 (mkF m 24 #[.val (.int p1), .val (.int i), .val (.ref ap), .unset] [])
      refine own_go (fun t k => XS.iconst X1.here hx rfl (hb hby at_24) k) ?_
      show own_Go p e below _ T1 (mkF m 25 #[.val (.int p1), .val (.int i), .val (.ref ap), .unset] [(.int (1 : Int32))])
      refine own_go (fun t k => XS.goto X1.here hx rfl (pc0 := 25) (pc' := 29) rfl (hb hby at_25) (by decide) (by decide) k) ?_
      show own_Go p e below _ T1 (mkF m 29 #[.val (.int p1), .val (.int i), .val (.ref ap), .unset] [(.int (1 : Int32))])
      refine own_go (fun t k => XS.istoreN X1.here hx rfl (hb hby at_29) rfl (l' := #[.val (.int p1), .val (.int i), .val (.ref ap), .val (.int (1 : Int32))]) rfl k) ?_
      show own_Go p e below _ T1 (mkF m 30 #[.val (.int p1), .val (.int i), .val (.ref ap), .val (.int (1 : Int32))] [])
      refine own_go (fun t k => XS.aloadN X1.here hx rfl (hb hby at_30) rfl rfl k) ?_
      show own_Go p e below _ T1 (mkF m 31 #[.val (.int p1), .val (.int i), .val (.ref ap), .val (.int (1 : Int32))] [(.ref ap)])
      obtain ⟨_, T4, L4, X4, ⟨rfl, N4, e4⟩, st4⟩ := own_callV X1 hx hZ (y := (⟨"com/example/forking_paths/forkingpaths/io/SmvExpression$Op", "isBinary", "()Z"⟩ : MethodName)) (z := (⟨"com/example/forking_paths/forkingpaths/io/SmvExpression$Op", "isBinary", "()Z"⟩ : MethodName)) (b := ap) (argsL := []) (rest := []) (Ls := #[.val (.int p1), .val (.int i), .val (.ref ap), .val (.int (1 : Int32))]) hown (own_w hw 8 rfl) (own_w hw 9 rfl) (own_w hw 11 rfl) (notFace_of_selects (args := #[]) (mvT hZ (own_w hw 11 rfl))) (own_w hw 10 rfl) (own_w hw 12 rfl) (own_w hw 6 rfl) (by decide) e1 Ep (rm2 l Z a0 hw [] ap kp h0 n0 Z0 Fp) 0 (by decide) (by decide) (by decide) (by decide) (by rw [hml]; rfl) (lenOf pd_0 rfl) rfl (Nat.le_of_eq rfl) (hb hby at_31)
      have M4 := Fr.app M1 N4
      refine own_go st4 ?_
      show own_Go p e below _ T4 (mkF m 34 #[.val (.int p1), .val (.int i), .val (.ref ap), .val (.int (1 : Int32))] [(.int (if kp < (8 : Int32) then 1 else 0))])
      refine own_go (fun t k => XS.iloadN X4.here hx rfl (hb hby at_34) rfl k) ?_
      show own_Go p e below _ T4 (mkF m 35 #[.val (.int p1), .val (.int i), .val (.ref ap), .val (.int (1 : Int32))] [(.int (1 : Int32)), (.int (if kp < (8 : Int32) then 1 else 0))])
      refine own_go (fun t k => XS.icmpNo X4.here hx rfl (hb hby at_35) rfl (XT.ii_ne_f (if_pos (hp.mpr ⟨Int32.not_lt.mp hc15, Int32.not_lt.mp hc21⟩))) k) ?_
      show own_Go p e below _ T4 (mkF m 38 #[.val (.int p1), .val (.int i), .val (.ref ap), .val (.int (1 : Int32))] [])
      refine own_go (fun t k => XS.iconst X4.here hx rfl (hb hby at_38) k) ?_
      show own_Go p e below _ T4 (mkF m 39 #[.val (.int p1), .val (.int i), .val (.ref ap), .val (.int (1 : Int32))] [(.int (1 : Int32))])
      refine own_go (fun t k => XS.goto X4.here hx rfl (pc0 := 39) (pc' := 43) rfl (hb hby at_39) (by decide) (by decide) k) ?_
      show own_Go p e below _ T4 (mkF m 43 #[.val (.int p1), .val (.int i), .val (.ref ap), .val (.int (1 : Int32))] [(.int (1 : Int32))])
      refine own_retZ X4 hx hlk hret (hb hby at_43) (Or.inr rfl) (by decide) (by decide) ?_
      exact ⟨rfl, M4⟩
set_option maxRecDepth 65536 in
set_option maxHeartbeats 40000000 in
theorem comes_1 {Post : Tables → Env → Array Value → State → Outcome → State → Prop} (hpost : ∀ tb e args s v u, (limb_1_1.after args s (.returned v) u = true ∧ limb_1_2.after args s (.returned v) u = true ∧ True) → FrameEnd s (.returned v) u (Jvm.fieldLocs frame_1_writes args s ++ Jvm.arrayLocs frame_1_arrays args s ++ Jvm.staticLocs frame_1_statics s) 0 0 → Post tb e args s (.returned v) u) :
    ArmFor flags0 classFile x code maxLocals ret World_1 tables_1 room_1 Calls_1 rest_1 Pre_1 Post := by
  intro l hfl _ _ p e ha hc hk s m args below hf hA hF happ hP
  obtain ⟨hcalls, hrest, hpre⟩ := hP
  obtain ⟨-, -, -, hnamed, -, -, -, hat⟩ := (Spec.applies_iff hf).mp happ
  obtain ⟨hg, hn⟩ := and_e (Cond.before_iff.mp (show (Jvm.Cond.and given_1 narrow_1).before args s = true from hpre))
  obtain ⟨g1, g2⟩ := and_e hg
  obtain ⟨w0, rfl⟩ : ∃ w0 : Value, args = #[w0] := by
    have hs : args.size = 1 := by simpa [Cond.value, given_1] using g1
    obtain ⟨L⟩ := args
    match L, hs with
    | [w0], _ => exact ⟨w0, rfl⟩
  have hw := fun d (hd : d ∈ tables_1) => atoms_spec (ws := Jvm.Cond.code x code maxLocals ret :: tables_1) hat d (List.mem_cons_of_mem _ hd)
  have hfit : Fit s := fun {y c} hc i hi => by
    obtain ⟨ha, rfl⟩ := Array.getElem?_eq_some_iff.mp hc
    have q := List.all_eq_true.mp ((Array.all_eq_true_iff_forall_mem.mp hF) _ (Array.getElem_mem ha)) i (List.mem_range.mpr hi)
    simpa [Array.getElem?_eq_getElem hi] using q
  obtain ⟨i0, ei0⟩ := is_v g2
  obtain rfl : w0 = (.int i0) := Option.some.inj ei0
  obtain ⟨nq0, nr0⟩ := and_e hn
  obtain ⟨nq1, nr1⟩ := and_e nr0
  obtain ⟨nq2, nr2⟩ := and_e nr1
  obtain ⟨nq3, nr3⟩ := and_e nr2
  obtain ⟨nq4, nr4⟩ := and_e nr3
  obtain ⟨nq5, nr5⟩ := and_e nr4
  obtain ⟨nq6, nr6⟩ := and_e nr5
  obtain ⟨nq7, nr7⟩ := and_e nr6
  obtain ⟨nq8, nr8⟩ := and_e nr7
  obtain ⟨nq9, nr9⟩ := and_e nr8
  obtain ⟨nq10, nr10⟩ := and_e nr9
  obtain ⟨nq11, nr11⟩ := and_e nr10
  obtain ⟨nq12, nr12⟩ := and_e nr11
  obtain ⟨nq13, nr13⟩ := and_e nr12
  obtain ⟨nq14, nr14⟩ := and_e nr13
  obtain ⟨nq15, nr15⟩ := and_e nr14
  obtain ⟨nq16, nr16⟩ := and_e nr15
  obtain ⟨nq17, nr17⟩ := and_e nr16
  obtain ⟨nq18, nr18⟩ := and_e nr17
  obtain ⟨nq19, nr19⟩ := and_e nr18
  obtain ⟨nq20, nr20⟩ := and_e nr19
  obtain ⟨nq21, nr21⟩ := and_e nr20
  obtain ⟨nq22, nr22⟩ := and_e nr21
  obtain ⟨nq23, nr23⟩ := and_e nr22
  obtain ⟨nq24, nr24⟩ := and_e nr23
  obtain ⟨nq25, nr25⟩ := and_e nr24
  obtain ⟨nq26, nr26⟩ := and_e nr25
  obtain ⟨nq27, nr27⟩ := and_e nr26
  obtain ⟨nq28, nr28⟩ := and_e nr27
  obtain ⟨nq29, nr29⟩ := and_e nr28
  obtain ⟨nq30, nr30⟩ := and_e nr29
  obtain ⟨nq31, nr31⟩ := and_e nr30
  obtain ⟨nq32, nr32⟩ := and_e nr31
  obtain ⟨nq33, nr33⟩ := and_e nr32
  obtain ⟨nq34, nr34⟩ := and_e nr33
  obtain ⟨nq35, nr35⟩ := and_e nr34
  obtain ⟨nq36, nr36⟩ := and_e nr35
  obtain ⟨nq37, nr37⟩ := and_e nr36
  obtain ⟨nq38, nr38⟩ := and_e nr37
  obtain ⟨nq39, nr39⟩ := and_e nr38
  obtain ⟨nq40, nr40⟩ := and_e nr39
  obtain ⟨nq41, nr41⟩ := and_e nr40
  obtain ⟨nq42, nr42⟩ := and_e nr41
  obtain ⟨a_NUMBER, ev_NUMBER⟩ := exa_v nq0
  have E_NUMBER := Exa.start ev_NUMBER nq0
  have S_NUMBER := Sta.start ev_NUMBER (Or.inr ⟨(own_w hw 6 rfl), (own_w hw 7 rfl)⟩)
  obtain ⟨a_NOT, ev_NOT⟩ := exa_v nq2
  have E_NOT := Exa.start ev_NOT nq2
  have S_NOT := Sta.start ev_NOT (Or.inr ⟨(own_w hw 6 rfl), (own_w hw 16 rfl)⟩)
  obtain ⟨a_PLUS, ev_PLUS⟩ := exa_v nq4
  have E_PLUS := Exa.start ev_PLUS nq4
  have S_PLUS := Sta.start ev_PLUS (Or.inr ⟨(own_w hw 6 rfl), (own_w hw 18 rfl)⟩)
  obtain ⟨a_MINUS, ev_MINUS⟩ := exa_v nq6
  have E_MINUS := Exa.start ev_MINUS nq6
  have S_MINUS := Sta.start ev_MINUS (Or.inr ⟨(own_w hw 6 rfl), (own_w hw 20 rfl)⟩)
  obtain ⟨a_NAME, ev_NAME⟩ := exa_v nq8
  have E_NAME := Exa.start ev_NAME nq8
  have S_NAME := Sta.start ev_NAME (Or.inr ⟨(own_w hw 6 rfl), (own_w hw 22 rfl)⟩)
  obtain ⟨a_LESS, ev_LESS⟩ := exa_v nq10
  have E_LESS := Exa.start ev_LESS nq10
  have S_LESS := Sta.start ev_LESS (Or.inr ⟨(own_w hw 6 rfl), (own_w hw 24 rfl)⟩)
  obtain ⟨a_NOT_EQUAL, ev_NOT_EQUAL⟩ := exa_v nq12
  have E_NOT_EQUAL := Exa.start ev_NOT_EQUAL nq12
  have S_NOT_EQUAL := Sta.start ev_NOT_EQUAL (Or.inr ⟨(own_w hw 6 rfl), (own_w hw 26 rfl)⟩)
  obtain ⟨a_BOOLEAN, ev_BOOLEAN⟩ := exa_v nq14
  have E_BOOLEAN := Exa.start ev_BOOLEAN nq14
  have S_BOOLEAN := Sta.start ev_BOOLEAN (Or.inr ⟨(own_w hw 6 rfl), (own_w hw 28 rfl)⟩)
  obtain ⟨a_EQUAL, ev_EQUAL⟩ := exa_v nq16
  have E_EQUAL := Exa.start ev_EQUAL nq16
  have S_EQUAL := Sta.start ev_EQUAL (Or.inr ⟨(own_w hw 6 rfl), (own_w hw 30 rfl)⟩)
  obtain ⟨a_TIMES, ev_TIMES⟩ := exa_v nq18
  have E_TIMES := Exa.start ev_TIMES nq18
  have S_TIMES := Sta.start ev_TIMES (Or.inr ⟨(own_w hw 6 rfl), (own_w hw 32 rfl)⟩)
  obtain ⟨a_OR, ev_OR⟩ := exa_v nq20
  have E_OR := Exa.start ev_OR nq20
  have S_OR := Sta.start ev_OR (Or.inr ⟨(own_w hw 6 rfl), (own_w hw 34 rfl)⟩)
  obtain ⟨a_MOD, ev_MOD⟩ := exa_v nq22
  have E_MOD := Exa.start ev_MOD nq22
  have S_MOD := Sta.start ev_MOD (Or.inr ⟨(own_w hw 6 rfl), (own_w hw 36 rfl)⟩)
  obtain ⟨a_IMPLIES, ev_IMPLIES⟩ := exa_v nq24
  have E_IMPLIES := Exa.start ev_IMPLIES nq24
  have S_IMPLIES := Sta.start ev_IMPLIES (Or.inr ⟨(own_w hw 6 rfl), (own_w hw 38 rfl)⟩)
  obtain ⟨a_IFF, ev_IFF⟩ := exa_v nq26
  have E_IFF := Exa.start ev_IFF nq26
  have S_IFF := Sta.start ev_IFF (Or.inr ⟨(own_w hw 6 rfl), (own_w hw 40 rfl)⟩)
  obtain ⟨a_AND, ev_AND⟩ := exa_v nq28
  have E_AND := Exa.start ev_AND nq28
  have S_AND := Sta.start ev_AND (Or.inr ⟨(own_w hw 6 rfl), (own_w hw 42 rfl)⟩)
  obtain ⟨a_NEGATE, ev_NEGATE⟩ := exa_v nq30
  have E_NEGATE := Exa.start ev_NEGATE nq30
  have S_NEGATE := Sta.start ev_NEGATE (Or.inr ⟨(own_w hw 6 rfl), (own_w hw 44 rfl)⟩)
  obtain ⟨a_SET, ev_SET⟩ := exa_v nq32
  have E_SET := Exa.start ev_SET nq32
  have S_SET := Sta.start ev_SET (Or.inr ⟨(own_w hw 6 rfl), (own_w hw 46 rfl)⟩)
  obtain ⟨a_GREATER_EQUAL, ev_GREATER_EQUAL⟩ := exa_v nq34
  have E_GREATER_EQUAL := Exa.start ev_GREATER_EQUAL nq34
  have S_GREATER_EQUAL := Sta.start ev_GREATER_EQUAL (Or.inr ⟨(own_w hw 6 rfl), (own_w hw 48 rfl)⟩)
  obtain ⟨a_LESS_EQUAL, ev_LESS_EQUAL⟩ := exa_v nq36
  have E_LESS_EQUAL := Exa.start ev_LESS_EQUAL nq36
  have S_LESS_EQUAL := Sta.start ev_LESS_EQUAL (Or.inr ⟨(own_w hw 6 rfl), (own_w hw 50 rfl)⟩)
  obtain ⟨a_GREATER, ev_GREATER⟩ := exa_v nq38
  have E_GREATER := Exa.start ev_GREATER nq38
  have S_GREATER := Sta.start ev_GREATER (Or.inr ⟨(own_w hw 6 rfl), (own_w hw 52 rfl)⟩)
  obtain ⟨a_XOR, ev_XOR⟩ := exa_v nq40
  have E_XOR := Exa.start ev_XOR nq40
  have S_XOR := Sta.start ev_XOR (Or.inr ⟨(own_w hw 6 rfl), (own_w hw 54 rfl)⟩)
  obtain ⟨a_CASE, ev_CASE⟩ := exa_v nq42
  have E_CASE := Exa.start ev_CASE nq42
  have S_CASE := Sta.start ev_CASE (Or.inr ⟨(own_w hw 6 rfl), (own_w hw 56 rfl)⟩)
  have F_NUMBER_binding := own_fld ev_NUMBER (own_eqI nq1)
  have F_NOT_binding := own_fld ev_NOT (own_eqI nq3)
  have F_PLUS_binding := own_fld ev_PLUS (own_eqI nq5)
  have F_MINUS_binding := own_fld ev_MINUS (own_eqI nq7)
  have F_NAME_binding := own_fld ev_NAME (own_eqI nq9)
  have F_LESS_binding := own_fld ev_LESS (own_eqI nq11)
  have F_NOT_EQUAL_binding := own_fld ev_NOT_EQUAL (own_eqI nq13)
  have F_BOOLEAN_binding := own_fld ev_BOOLEAN (own_eqI nq15)
  have F_EQUAL_binding := own_fld ev_EQUAL (own_eqI nq17)
  have F_TIMES_binding := own_fld ev_TIMES (own_eqI nq19)
  have F_OR_binding := own_fld ev_OR (own_eqI nq21)
  have F_MOD_binding := own_fld ev_MOD (own_eqI nq23)
  have F_IMPLIES_binding := own_fld ev_IMPLIES (own_eqI nq25)
  have F_IFF_binding := own_fld ev_IFF (own_eqI nq27)
  have F_AND_binding := own_fld ev_AND (own_eqI nq29)
  have F_NEGATE_binding := own_fld ev_NEGATE (own_eqI nq31)
  have F_SET_binding := own_fld ev_SET (own_eqI nq33)
  have F_GREATER_EQUAL_binding := own_fld ev_GREATER_EQUAL (own_eqI nq35)
  have F_LESS_EQUAL_binding := own_fld ev_LESS_EQUAL (own_eqI nq37)
  have F_GREATER_binding := own_fld ev_GREATER (own_eqI nq39)
  have F_XOR_binding := own_fld ev_XOR (own_eqI nq41)
  have F_CASE_binding := own_fld ev_CASE (own_eqI nr42)
  obtain ⟨n, o, h1, h2, h3, _, L, rfl, ⟨rfl, N⟩, hq⟩ := rm0 l s _ hw tables_1 i0 a_NUMBER a_NOT a_PLUS a_MINUS a_NAME a_LESS a_NOT_EQUAL a_BOOLEAN a_EQUAL a_TIMES a_OR a_MOD a_IMPLIES a_IFF a_AND a_NEGATE a_SET a_GREATER_EQUAL a_LESS_EQUAL a_GREATER a_XOR a_CASE s.heap s.heap.size (Nat.le_refl _) S_NUMBER E_NUMBER S_NOT E_NOT S_PLUS E_PLUS S_MINUS E_MINUS S_NAME E_NAME S_LESS E_LESS S_NOT_EQUAL E_NOT_EQUAL S_BOOLEAN E_BOOLEAN S_EQUAL E_EQUAL S_TIMES E_TIMES S_OR E_OR S_MOD E_MOD S_IMPLIES E_IMPLIES S_IFF E_IFF S_AND E_AND S_NEGATE E_NEGATE S_SET E_SET S_GREATER_EQUAL E_GREATER_EQUAL S_LESS_EQUAL E_LESS_EQUAL S_GREATER E_GREATER S_XOR E_XOR S_CASE E_CASE F_NUMBER_binding F_NOT_binding F_PLUS_binding F_MINUS_binding F_NAME_binding F_LESS_binding F_NOT_EQUAL_binding F_BOOLEAN_binding F_EQUAL_binding F_TIMES_binding F_OR_binding F_MOD_binding F_IMPLIES_binding F_IFF_binding F_AND_binding F_NEGATE_binding F_SET_binding F_GREATER_EQUAL_binding F_LESS_EQUAL_binding F_GREATER_binding F_XOR_binding F_CASE_binding p e ha hc hk s m _ below hf ((Spec.applies_iff_loose hf).mp happ).1 ⟨rfl, State.Warmed39.refl s, rfl⟩ trivial
  refine ⟨n, _, h1, h2, h3, hpost _ _ _ _ _ _ ⟨Cond.after_iff.mpr rfl, Cond.after_iff.mpr (eq_i res_at (Term.int_eval (1)) rfl), trivial⟩ ⟨hq.1, hq.2.1, (hq.2.2.sift fun y hy => Or.inr (N y hy)).mono (by decide) (by decide)⟩⟩
theorem main_1_1 : Claimed_1_1 := comes_1 fun _ _ _ _ _ _ h hF => ⟨h.1, hF⟩
theorem main_1_2 : Claimed_1_2 := comes_1 fun _ _ _ _ _ _ h hF => ⟨h.2.1, hF⟩
end Jvm.Pilot.@@N@@
namespace Jvm.Pilot.@@N@@
open Jvm Jvm.ClassFile Sem Op Lib Jvm.Free Jvm.Stand Jvm.Pilot.@@N@@.Jvm.D
/-! MADE BY PROGRAM (witnessworld.py) out of the Statement's table words and the real class files: 12 classes; the members and pool entries that the words name. The judged class is class 1, her method 2. -/
namespace start1
open Jvm.ClassFile
def u (s : String) : CpInfo := .utf8 (stringToUtf16 s)
/-- a pool by its gaps: so many unusable entries, then the entry; so many at the end -/
def gap : Nat → List CpInfo → List CpInfo
  | 0, r => r
  | n + 1, r => .unusable :: gap n r
def poolList (es : List (Nat × CpInfo)) (last : Nat) : List CpInfo := es.foldr (fun e r => gap e.1 (e.2 :: r)) (gap last [])
def pool (es : List (Nat × CpInfo)) (last : Nat) : Array CpInfo := ⟨poolList es last⟩
def fileOf (pool : Array CpInfo) (this : Nat) (attrs : Array Attribute := #[]) (ms : Array MethodInfo := #[]) (fl : Nat := 33) (sup : Nat := 0) (ifs : Array Nat := #[]) (fds : Array FieldInfo := #[]) : ClassFile where
  minorVersion := 0
  majorVersion := 65
  constantPool := pool
  accessFlags := fl
  thisClass := this
  superClass := sup
  interfaces := ifs
  fields := fds
  methods := ms
  attributes := attrs
def plain (name : String) (sup : Option ClassId) : Class where
  name := name
  kind := .ordinary
  loader := none
  accessFlags := 33
  super := sup
  interfaces := #[]
  cf := none
  fields := #[]
  methods := #[]
  instanceTypes := #[]
  staticTypes := #[]
  resolved := #[]
  callSites := []
  init := .initialized
  statics := none
  mirror := none

def pool0 : Array CpInfo := pool [(5, u "<init>"), (0, u "()V"), (1, .class_ 10), (1, u "java/lang/Object")] 113

def k0m0 : Method := { name := "<init>", desc := "()V", sig := { parameters := [], returnType := none }, accessFlags := 1, code := none }
/-- java/lang/Object -/
def k0 : Class := { plain "java/lang/Object" none with
  accessFlags := 33
  interfaces := #[]
  cf := some (fileOf pool0 8 #[] #[{ accessFlags := 1, nameIndex := 5, descriptorIndex := 6, attributes := #[] }] 33 0 #[] #[])
  fields := #[]
  methods := #[k0m0]
  instanceTypes := #[]
  staticTypes := #[]
  resolved := Array.replicate 124 none
  statics := none }

def pool1 : Array CpInfo := pool [(2, .class_ 4), (1, u "java/lang/Object"), (0, u "<init>"), (0, u "()V"), (0, .fieldref 8 9), (0, .class_ 10), (0, .nameAndType 11 12), (0, u "com/example/forking_paths/forkingpaths/io/SmvExpression$Op"), (0, u "NUMBER"), (0, u "Lcom/example/forking_paths/forkingpaths/io/SmvExpression$Op;"), (0, .fieldref 8 14), (0, .nameAndType 15 12), (0, u "BOOLEAN"), (0, .fieldref 8 17), (0, .nameAndType 18 12), (0, u "NAME"), (0, .fieldref 8 20), (0, .nameAndType 21 12), (0, u "NOT"), (0, .fieldref 8 23), (0, .nameAndType 24 12), (0, u "NEGATE"), (0, .fieldref 8 26), (0, .nameAndType 27 12), (0, u "TIMES"), (0, .fieldref 8 29), (0, .nameAndType 30 12), (0, u "MOD"), (0, .fieldref 8 32), (0, .nameAndType 33 12), (0, u "PLUS"), (0, .fieldref 8 35), (0, .nameAndType 36 12), (0, u "MINUS"), (0, .fieldref 8 38), (0, .nameAndType 39 12), (0, u "EQUAL"), (0, .fieldref 8 41), (0, .nameAndType 42 12), (0, u "NOT_EQUAL"), (0, .fieldref 8 44), (0, .nameAndType 45 12), (0, u "LESS"), (0, .fieldref 8 47), (0, .nameAndType 48 12), (0, u "LESS_EQUAL"), (0, .fieldref 8 50), (0, .nameAndType 51 12), (0, u "GREATER"), (0, .fieldref 8 53), (0, .nameAndType 54 12), (0, u "GREATER_EQUAL"), (0, .fieldref 8 56), (0, .nameAndType 57 12), (0, u "AND"), (0, .fieldref 8 59), (0, .nameAndType 60 12), (0, u "OR"), (0, .fieldref 8 62), (0, .nameAndType 63 12), (0, u "XOR"), (0, .fieldref 8 65), (0, .nameAndType 66 12), (0, u "IFF"), (0, .fieldref 8 68), (0, .nameAndType 69 12), (0, u "IMPLIES"), (0, .fieldref 8 71), (0, .nameAndType 72 12), (0, u "CASE"), (0, .fieldref 8 74), (0, .nameAndType 75 12), (0, u "SET"), (0, .integer 2147483647), (0, .methodref 78 79), (0, .class_ 80), (0, .nameAndType 81 82), (0, u "com/example/forking_paths/forkingpaths/io/OpIsBinaryPinLaw"), (0, u "pick"), (0, u "(I)Lcom/example/forking_paths/forkingpaths/io/SmvExpression$Op;"), (0, .methodref 8 84), (0, .nameAndType 85 86), (0, u "isBinary"), (0, u "()Z"), (3, u "law"), (0, u "(I)Z")] 6

def k1m0 : Method := { name := "<init>", desc := "()V", sig := { parameters := [], returnType := none }, accessFlags := 1, code := none }
def k1c1 : Code := { maxStack := 2, maxLocals := 1, code := method_2_code, exceptionTable := #[], attributes := #[] }
def k1m1 : Method := { name := "pick", desc := "(I)Lcom/example/forking_paths/forkingpaths/io/SmvExpression$Op;", sig := { parameters := [.int], returnType := some (.object "com/example/forking_paths/forkingpaths/io/SmvExpression$Op") }, accessFlags := 10, code := some k1c1 }
def k1c2 : Code := { maxStack := 2, maxLocals := 4, code := code, exceptionTable := #[], attributes := #[] }
def k1m2 : Method := { name := "law", desc := "(I)Z", sig := { parameters := [.int], returnType := some .boolean }, accessFlags := 9, code := some k1c2 }
/-- com/example/forking_paths/forkingpaths/io/OpIsBinaryPinLaw -/
def k1 : Class := { plain "com/example/forking_paths/forkingpaths/io/OpIsBinaryPinLaw" (some 0) with
  accessFlags := 49
  interfaces := #[]
  cf := some (fileOf pool1 78 #[] #[{ accessFlags := 1, nameIndex := 5, descriptorIndex := 6, attributes := #[] }, { accessFlags := 10, nameIndex := 81, descriptorIndex := 82, attributes := #[] }, { accessFlags := 9, nameIndex := 90, descriptorIndex := 91, attributes := #[] }] 49 2 #[] #[])
  fields := #[]
  methods := #[k1m0, k1m1, k1m2]
  instanceTypes := #[]
  staticTypes := #[]
  resolved := Array.replicate 98 none
  statics := none }

def pool2 : Array CpInfo := pool [(1, .class_ 2), (0, u "java/lang/constant/Constable"), (0, .class_ 4), (0, u "java/lang/Object")] 6

/-- java/lang/constant/Constable -/
def k2 : Class := { plain "java/lang/constant/Constable" (some 0) with
  accessFlags := 1537
  interfaces := #[]
  cf := some (fileOf pool2 1 #[] #[] 1537 3 #[] #[])
  fields := #[]
  methods := #[]
  instanceTypes := #[]
  staticTypes := #[]
  resolved := Array.replicate 11 none
  statics := none }

def pool3 : Array CpInfo := pool [(1, .class_ 2), (0, u "java/lang/Comparable"), (0, .class_ 4), (0, u "java/lang/Object")] 7

/-- java/lang/Comparable -/
def k3 : Class := { plain "java/lang/Comparable" (some 0) with
  accessFlags := 1537
  interfaces := #[]
  cf := some (fileOf pool3 1 #[] #[] 1537 3 #[] #[])
  fields := #[]
  methods := #[]
  instanceTypes := #[]
  staticTypes := #[]
  resolved := Array.replicate 12 none
  statics := none }

def pool4 : Array CpInfo := pool [(1, .class_ 2), (0, u "java/io/Serializable"), (0, .class_ 4), (0, u "java/lang/Object")] 2

/-- java/io/Serializable -/
def k4 : Class := { plain "java/io/Serializable" (some 0) with
  accessFlags := 1537
  interfaces := #[]
  cf := some (fileOf pool4 1 #[] #[] 1537 3 #[] #[])
  fields := #[]
  methods := #[]
  instanceTypes := #[]
  staticTypes := #[]
  resolved := Array.replicate 7 none
  statics := none }

def pool5 : Array CpInfo := pool [(2, .class_ 4), (1, u "java/lang/Enum"), (0, u "name"), (0, u "Ljava/lang/String;"), (2, u "ordinal"), (0, u "I"), (1, .class_ 14), (1, u "java/lang/Object"), (4, u "hash"), (86, .class_ 108), (1, u "java/lang/Enum$EnumDesc"), (2, .class_ 112), (0, u "java/lang/constant/Constable"), (0, .class_ 114), (0, u "java/lang/Comparable"), (0, .class_ 116), (0, u "java/io/Serializable")] 87

/-- java/lang/Enum -/
def k5 : Class := { plain "java/lang/Enum" (some 0) with
  accessFlags := 1057
  interfaces := #[2, 3, 4]
  cf := some (fileOf pool5 2 #[.nestMembers #[106]] #[] 1057 12 #[111, 113, 115] #[{ accessFlags := 18, nameIndex := 5, descriptorIndex := 6, attributes := #[] }, { accessFlags := 18, nameIndex := 9, descriptorIndex := 10, attributes := #[] }, { accessFlags := 2, nameIndex := 19, descriptorIndex := 10, attributes := #[] }])
  fields := #[{ name := "name", type := (.object "java/lang/String"), accessFlags := 18, slot := 0, constantValue := 0 }, { name := "ordinal", type := .int, accessFlags := 18, slot := 1, constantValue := 0 }, { name := "hash", type := .int, accessFlags := 2, slot := 2, constantValue := 0 }]
  methods := #[]
  instanceTypes := #[(.object "java/lang/String"), .int, .int]
  staticTypes := #[]
  resolved := Array.replicate 204 none
  statics := none }

def pool6 : Array CpInfo := pool [(1, .class_ 2), (0, u "com/example/forking_paths/forkingpaths/io/SmvExpression$Op"), (2, u "NUMBER"), (0, u "Lcom/example/forking_paths/forkingpaths/io/SmvExpression$Op;"), (2, u "BOOLEAN"), (2, u "NAME"), (2, u "NOT"), (2, u "NEGATE"), (2, u "TIMES"), (2, u "MOD"), (2, u "PLUS"), (2, u "MINUS"), (2, u "EQUAL"), (2, u "NOT_EQUAL"), (2, u "LESS"), (2, u "LESS_EQUAL"), (2, u "GREATER"), (2, u "GREATER_EQUAL"), (2, u "AND"), (2, u "OR"), (2, u "XOR"), (2, u "IFF"), (2, u "IMPLIES"), (2, u "CASE"), (2, u "SET"), (2, u "$VALUES"), (0, u "[Lcom/example/forking_paths/forkingpaths/io/SmvExpression$Op;"), (6, .class_ 82), (1, u "java/lang/Enum"), (8, u "symbol"), (0, u "Ljava/lang/String;"), (0, .fieldref 1 94), (0, .nameAndType 95 96), (0, u "binding"), (0, u "I"), (61, u "PREFIX"), (2, u "ATOMIC"), (1, u "COMPARISON"), (9, u "isBinary"), (0, u "()Z"), (7, .class_ 183), (0, u "com/example/forking_paths/forkingpaths/io/SmvExpression")] 2

def k6c0 : Code := { maxStack := 2, maxLocals := 1, code := prog_44_method_6_code, exceptionTable := #[], attributes := #[] }
def k6m0 : Method := { name := "isBinary", desc := "()Z", sig := { parameters := [], returnType := some .boolean }, accessFlags := 0, code := some k6c0 }
/-- com/example/forking_paths/forkingpaths/io/SmvExpression$Op -/
def k6 : Class := { plain "com/example/forking_paths/forkingpaths/io/SmvExpression$Op" (some 5) with
  accessFlags := 16432
  interfaces := #[]
  cf := some (fileOf pool6 1 #[.nestHost 182] #[{ accessFlags := 0, nameIndex := 173, descriptorIndex := 174, attributes := #[] }] 16432 80 #[] #[{ accessFlags := 16409, nameIndex := 5, descriptorIndex := 6, attributes := #[] }, { accessFlags := 16409, nameIndex := 9, descriptorIndex := 6, attributes := #[] }, { accessFlags := 16409, nameIndex := 12, descriptorIndex := 6, attributes := #[] }, { accessFlags := 16409, nameIndex := 15, descriptorIndex := 6, attributes := #[] }, { accessFlags := 16409, nameIndex := 18, descriptorIndex := 6, attributes := #[] }, { accessFlags := 16409, nameIndex := 21, descriptorIndex := 6, attributes := #[] }, { accessFlags := 16409, nameIndex := 24, descriptorIndex := 6, attributes := #[] }, { accessFlags := 16409, nameIndex := 27, descriptorIndex := 6, attributes := #[] }, { accessFlags := 16409, nameIndex := 30, descriptorIndex := 6, attributes := #[] }, { accessFlags := 16409, nameIndex := 33, descriptorIndex := 6, attributes := #[] }, { accessFlags := 16409, nameIndex := 36, descriptorIndex := 6, attributes := #[] }, { accessFlags := 16409, nameIndex := 39, descriptorIndex := 6, attributes := #[] }, { accessFlags := 16409, nameIndex := 42, descriptorIndex := 6, attributes := #[] }, { accessFlags := 16409, nameIndex := 45, descriptorIndex := 6, attributes := #[] }, { accessFlags := 16409, nameIndex := 48, descriptorIndex := 6, attributes := #[] }, { accessFlags := 16409, nameIndex := 51, descriptorIndex := 6, attributes := #[] }, { accessFlags := 16409, nameIndex := 54, descriptorIndex := 6, attributes := #[] }, { accessFlags := 16409, nameIndex := 57, descriptorIndex := 6, attributes := #[] }, { accessFlags := 16409, nameIndex := 60, descriptorIndex := 6, attributes := #[] }, { accessFlags := 16409, nameIndex := 63, descriptorIndex := 6, attributes := #[] }, { accessFlags := 16409, nameIndex := 66, descriptorIndex := 6, attributes := #[] }, { accessFlags := 16409, nameIndex := 69, descriptorIndex := 6, attributes := #[] }, { accessFlags := 24, nameIndex := 158, descriptorIndex := 96, attributes := #[] }, { accessFlags := 24, nameIndex := 161, descriptorIndex := 96, attributes := #[] }, { accessFlags := 24, nameIndex := 163, descriptorIndex := 96, attributes := #[] }, { accessFlags := 18, nameIndex := 91, descriptorIndex := 92, attributes := #[] }, { accessFlags := 18, nameIndex := 95, descriptorIndex := 96, attributes := #[] }, { accessFlags := 4122, nameIndex := 72, descriptorIndex := 73, attributes := #[] }])
  fields := #[{ name := "NUMBER", type := (.object "com/example/forking_paths/forkingpaths/io/SmvExpression$Op"), accessFlags := 16409, slot := 0, constantValue := 0 }, { name := "BOOLEAN", type := (.object "com/example/forking_paths/forkingpaths/io/SmvExpression$Op"), accessFlags := 16409, slot := 1, constantValue := 0 }, { name := "NAME", type := (.object "com/example/forking_paths/forkingpaths/io/SmvExpression$Op"), accessFlags := 16409, slot := 2, constantValue := 0 }, { name := "NOT", type := (.object "com/example/forking_paths/forkingpaths/io/SmvExpression$Op"), accessFlags := 16409, slot := 3, constantValue := 0 }, { name := "NEGATE", type := (.object "com/example/forking_paths/forkingpaths/io/SmvExpression$Op"), accessFlags := 16409, slot := 4, constantValue := 0 }, { name := "TIMES", type := (.object "com/example/forking_paths/forkingpaths/io/SmvExpression$Op"), accessFlags := 16409, slot := 5, constantValue := 0 }, { name := "MOD", type := (.object "com/example/forking_paths/forkingpaths/io/SmvExpression$Op"), accessFlags := 16409, slot := 6, constantValue := 0 }, { name := "PLUS", type := (.object "com/example/forking_paths/forkingpaths/io/SmvExpression$Op"), accessFlags := 16409, slot := 7, constantValue := 0 }, { name := "MINUS", type := (.object "com/example/forking_paths/forkingpaths/io/SmvExpression$Op"), accessFlags := 16409, slot := 8, constantValue := 0 }, { name := "EQUAL", type := (.object "com/example/forking_paths/forkingpaths/io/SmvExpression$Op"), accessFlags := 16409, slot := 9, constantValue := 0 }, { name := "NOT_EQUAL", type := (.object "com/example/forking_paths/forkingpaths/io/SmvExpression$Op"), accessFlags := 16409, slot := 10, constantValue := 0 }, { name := "LESS", type := (.object "com/example/forking_paths/forkingpaths/io/SmvExpression$Op"), accessFlags := 16409, slot := 11, constantValue := 0 }, { name := "LESS_EQUAL", type := (.object "com/example/forking_paths/forkingpaths/io/SmvExpression$Op"), accessFlags := 16409, slot := 12, constantValue := 0 }, { name := "GREATER", type := (.object "com/example/forking_paths/forkingpaths/io/SmvExpression$Op"), accessFlags := 16409, slot := 13, constantValue := 0 }, { name := "GREATER_EQUAL", type := (.object "com/example/forking_paths/forkingpaths/io/SmvExpression$Op"), accessFlags := 16409, slot := 14, constantValue := 0 }, { name := "AND", type := (.object "com/example/forking_paths/forkingpaths/io/SmvExpression$Op"), accessFlags := 16409, slot := 15, constantValue := 0 }, { name := "OR", type := (.object "com/example/forking_paths/forkingpaths/io/SmvExpression$Op"), accessFlags := 16409, slot := 16, constantValue := 0 }, { name := "XOR", type := (.object "com/example/forking_paths/forkingpaths/io/SmvExpression$Op"), accessFlags := 16409, slot := 17, constantValue := 0 }, { name := "IFF", type := (.object "com/example/forking_paths/forkingpaths/io/SmvExpression$Op"), accessFlags := 16409, slot := 18, constantValue := 0 }, { name := "IMPLIES", type := (.object "com/example/forking_paths/forkingpaths/io/SmvExpression$Op"), accessFlags := 16409, slot := 19, constantValue := 0 }, { name := "CASE", type := (.object "com/example/forking_paths/forkingpaths/io/SmvExpression$Op"), accessFlags := 16409, slot := 20, constantValue := 0 }, { name := "SET", type := (.object "com/example/forking_paths/forkingpaths/io/SmvExpression$Op"), accessFlags := 16409, slot := 21, constantValue := 0 }, { name := "PREFIX", type := .int, accessFlags := 24, slot := 22, constantValue := 0 }, { name := "ATOMIC", type := .int, accessFlags := 24, slot := 23, constantValue := 0 }, { name := "COMPARISON", type := .int, accessFlags := 24, slot := 24, constantValue := 0 }, { name := "symbol", type := (.object "java/lang/String"), accessFlags := 18, slot := 3, constantValue := 0 }, { name := "binding", type := .int, accessFlags := 18, slot := 4, constantValue := 0 }, { name := "$VALUES", type := (.array (.object "com/example/forking_paths/forkingpaths/io/SmvExpression$Op")), accessFlags := 4122, slot := 25, constantValue := 0 }]
  methods := #[k6m0]
  instanceTypes := #[(.object "java/lang/String"), .int, .int, (.object "java/lang/String"), .int]
  staticTypes := #[(.object "com/example/forking_paths/forkingpaths/io/SmvExpression$Op"), (.object "com/example/forking_paths/forkingpaths/io/SmvExpression$Op"), (.object "com/example/forking_paths/forkingpaths/io/SmvExpression$Op"), (.object "com/example/forking_paths/forkingpaths/io/SmvExpression$Op"), (.object "com/example/forking_paths/forkingpaths/io/SmvExpression$Op"), (.object "com/example/forking_paths/forkingpaths/io/SmvExpression$Op"), (.object "com/example/forking_paths/forkingpaths/io/SmvExpression$Op"), (.object "com/example/forking_paths/forkingpaths/io/SmvExpression$Op"), (.object "com/example/forking_paths/forkingpaths/io/SmvExpression$Op"), (.object "com/example/forking_paths/forkingpaths/io/SmvExpression$Op"), (.object "com/example/forking_paths/forkingpaths/io/SmvExpression$Op"), (.object "com/example/forking_paths/forkingpaths/io/SmvExpression$Op"), (.object "com/example/forking_paths/forkingpaths/io/SmvExpression$Op"), (.object "com/example/forking_paths/forkingpaths/io/SmvExpression$Op"), (.object "com/example/forking_paths/forkingpaths/io/SmvExpression$Op"), (.object "com/example/forking_paths/forkingpaths/io/SmvExpression$Op"), (.object "com/example/forking_paths/forkingpaths/io/SmvExpression$Op"), (.object "com/example/forking_paths/forkingpaths/io/SmvExpression$Op"), (.object "com/example/forking_paths/forkingpaths/io/SmvExpression$Op"), (.object "com/example/forking_paths/forkingpaths/io/SmvExpression$Op"), (.object "com/example/forking_paths/forkingpaths/io/SmvExpression$Op"), (.object "com/example/forking_paths/forkingpaths/io/SmvExpression$Op"), .int, .int, .int, (.array (.object "com/example/forking_paths/forkingpaths/io/SmvExpression$Op"))]
  resolved := Array.replicate 186 none
  statics := some 0 }

def pool7 : Array CpInfo := pool [(1, u "java/lang/Cloneable"), (0, .class_ 1), (0, u "java/lang/Object"), (0, .class_ 3)] 3

/-- java/lang/Cloneable -/
def k7 : Class := { plain "java/lang/Cloneable" (some 0) with
  accessFlags := 1537
  interfaces := #[]
  cf := some (fileOf pool7 2 #[] #[] 1537 4 #[] #[])
  fields := #[]
  methods := #[]
  instanceTypes := #[]
  staticTypes := #[]
  resolved := Array.replicate 8 none
  statics := none }

/-- the primitive byte -/
def k8 : Class := { plain "byte" none with kind := .primitive 'B', accessFlags := 0x411 }
/-- [B -/
def k9 : Class := { plain "[B" (some 0) with kind := .array 8 .byte, interfaces := #[7, 4], accessFlags := 1041 }

/-- the primitive int -/
def k10 : Class := { plain "int" none with kind := .primitive 'I', accessFlags := 0x411 }
/-- [I -/
def k11 : Class := { plain "[I" (some 0) with kind := .array 10 .int, interfaces := #[7, 4], accessFlags := 1041 }

def heap : Heap := #[{ cls := 6, slots := #[.ref 1, .ref 8, .ref 5, .ref 2, .ref 16, .ref 10, .ref 12, .ref 3, .ref 4, .ref 9, .ref 7, .ref 6, .ref 19, .ref 20, .ref 18, .ref 15, .ref 11, .ref 21, .ref 14, .ref 13, .ref 22, .ref 17, .int 0, .int 0, .int 0, .null], vm := .statics 6 },
  { cls := 6, slots := #[.null, .int 0, .int 0, .null, .int 9], vm := .none },
  { cls := 6, slots := #[.null, .int 0, .int 0, .null, .int 8], vm := .none },
  { cls := 6, slots := #[.null, .int 0, .int 0, .null, .int 6], vm := .none },
  { cls := 6, slots := #[.null, .int 0, .int 0, .null, .int 6], vm := .none },
  { cls := 6, slots := #[.null, .int 0, .int 0, .null, .int 9], vm := .none },
  { cls := 6, slots := #[.null, .int 0, .int 0, .null, .int 5], vm := .none },
  { cls := 6, slots := #[.null, .int 0, .int 0, .null, .int 5], vm := .none },
  { cls := 6, slots := #[.null, .int 0, .int 0, .null, .int 9], vm := .none },
  { cls := 6, slots := #[.null, .int 0, .int 0, .null, .int 5], vm := .none },
  { cls := 6, slots := #[.null, .int 0, .int 0, .null, .int 7], vm := .none },
  { cls := 6, slots := #[.null, .int 0, .int 0, .null, .int 3], vm := .none },
  { cls := 6, slots := #[.null, .int 0, .int 0, .null, .int 7], vm := .none },
  { cls := 6, slots := #[.null, .int 0, .int 0, .null, .int 1], vm := .none },
  { cls := 6, slots := #[.null, .int 0, .int 0, .null, .int 2], vm := .none },
  { cls := 6, slots := #[.null, .int 0, .int 0, .null, .int 4], vm := .none },
  { cls := 6, slots := #[.null, .int 0, .int 0, .null, .int 8], vm := .none },
  { cls := 6, slots := #[.null, .int 0, .int 0, .null, .int 9], vm := .none },
  { cls := 6, slots := #[.null, .int 0, .int 0, .null, .int 5], vm := .none },
  { cls := 6, slots := #[.null, .int 0, .int 0, .null, .int 5], vm := .none },
  { cls := 6, slots := #[.null, .int 0, .int 0, .null, .int 5], vm := .none },
  { cls := 6, slots := #[.null, .int 0, .int 0, .null, .int 3], vm := .none },
  { cls := 6, slots := #[.null, .int 0, .int 0, .null, .int 9], vm := .none }]
def classes : Array Class := #[k0, k1, k2, k3, k4, k5, k6, k7, k8, k9, k10, k11]
def interned : List (Array UInt16 × Addr) := []
def slotsUsed : Nat := 136
def theMethod : MethodId := ⟨1, 2⟩
def args0 : Array Value := #[.int 5]
def aboutOver (below : List Frame) : State where
  vm := { classes := classes, interned := interned.toArray }
  heap := heap
  slotsUsed := slotsUsed
  threads := #[{ frames := .invoking theMethod args0 :: below }]
def below0 : List Frame := [.native { method := ⟨0, 0⟩, args := #[] }]
def about1 : State := aboutOver below0
def p0 : Program := .bare "" "" ""
def e0 : Env := launch0.env 0 0 0
theorem w_frames : about1.frames = Frame.invoking theMethod args0 :: below0 := rfl
set_option maxRecDepth 65536 in
theorem w_args : argsFit about1.vm theMethod args0 = true := by decide +kernel
set_option maxRecDepth 65536 in
theorem w_heap : heapFits about1 = true := by decide +kernel
set_option maxRecDepth 65536 in
theorem w_runnable : about1.curStatus? = some .runnable := by decide +kernel
set_option maxRecDepth 65536 in
theorem w_alone : about1.alone = true := by decide +kernel
set_option maxRecDepth 65536 in
theorem w_named : about1.methodNamed? x = some theMethod := by decide +kernel
set_option maxRecDepth 65536 in
theorem w_hears : about1.hears theMethod below0 = true := by decide +kernel
set_option maxRecDepth 65536 in
theorem w_ripe : about1.ripe theMethod args0 below0 = true := by decide +kernel
theorem w_running : about1.status = .running := rfl
set_option maxRecDepth 65536 in
theorem w_room : about1.hasRoom e0.platform room_1 = true :=
  launch0.hasRoom_least _ room_1 (by decide +kernel) (by decide +kernel) (by decide +kernel) (by decide +kernel) (by decide +kernel) (by decide +kernel)
theorem allAtoms_all (ts : List Jvm.Cond) (a : Array Jvm.Value) (st : Jvm.State) : (allAtoms ts).before a st = ts.all (fun c => c.before a st) := by
  induction ts with
  | nil => rfl
  | cons c t ih =>
    show (Jvm.Cond.and c (allAtoms t)).before a st = _
    rw [Jvm.Cond.before_and, ih, List.all_cons]
def words1 : List Jvm.Cond := Jvm.Cond.code x code maxLocals ret :: tables_1
/-- a 'code' word, met by the world's own term for the bytes: nothing is compared byte by byte -/
theorem code_word {y : MethodName} {bytes : ByteArray} {mx : Nat} {rt : Option FieldType} {a : Array Value} {s : State} {m : MethodId} {meth : Method} {c : Code} (h1 : s.methodNamed? y = some m) (h2 : s.vm.method? m = some meth) (h3 : meth.code = some c) (h4 : c.code = bytes)
    (h5 : (c.maxLocals == mx && c.exceptionTable.isEmpty && decide (c.maxStack ≤ mostOperands) && decide (meth.sig.returnType = rt) && !meth.locks && decide (parseMethodDescriptor y.desc = some meth.sig)) = true) : (Jvm.Cond.code y bytes mx rt).before a s = true := by
  simp only [Bool.and_eq_true, beq_iff_eq, Bool.not_eq_true', decide_eq_true_eq] at h5
  obtain ⟨⟨⟨⟨⟨g1, g2⟩, g3⟩, g4⟩, g5⟩, g6⟩ := h5
  simp [Cond.before, Cond.holds, Cond.value, h1, h2, h3, h4, g1, g2, g3, g4, g5, g6]
def isCode : Jvm.Cond → Bool
  | .code _ _ _ _ => true
  | _ => false
theorem all_split {L : List Jvm.Cond} {P : Jvm.Cond → Bool} (h1 : L.all (fun c => isCode c || P c) = true) (h2 : ∀ c ∈ L.filter isCode, P c = true) : L.all P = true := by
  refine List.all_eq_true.mpr fun c hc => ?_
  have h := List.all_eq_true.mp h1 c hc
  rcases Bool.eq_false_or_eq_true (isCode c) with hi | hi
  · exact h2 c (List.mem_filter.mpr ⟨hc, hi⟩)
  · simpa [hi] using h
set_option maxRecDepth 65536 in
theorem w_c0 : (Jvm.Cond.code x code maxLocals ret).before args0 about1 = true := code_word (m := ⟨1, 2⟩) (meth := k1m2) (c := k1c2) (by decide +kernel) rfl rfl rfl (by decide +kernel)
set_option maxRecDepth 65536 in
theorem w_c1 : (Jvm.Cond.code ({ cls := "com/example/forking_paths/forkingpaths/io/OpIsBinaryPinLaw", name := "pick", desc := "(I)Lcom/example/forking_paths/forkingpaths/io/SmvExpression$Op;" } : Jvm.MethodName) method_2_code (1 : Nat) (Option.some (Jvm.ClassFile.FieldType.object "com/example/forking_paths/forkingpaths/io/SmvExpression$Op"))).before args0 about1 = true := code_word (m := ⟨1, 1⟩) (meth := k1m1) (c := k1c1) (by decide +kernel) rfl rfl rfl (by decide +kernel)
set_option maxRecDepth 65536 in
theorem w_c2 : (Jvm.Cond.code ({ cls := "com/example/forking_paths/forkingpaths/io/SmvExpression$Op", name := "isBinary", desc := "()Z" } : Jvm.MethodName) prog_44_method_6_code (1 : Nat) (Option.some Jvm.ClassFile.FieldType.boolean)).before args0 about1 = true := code_word (m := ⟨6, 0⟩) (meth := k6m0) (c := k6c0) (by decide +kernel) rfl rfl rfl (by decide +kernel)
def codes1 : List Jvm.Cond := [Jvm.Cond.code x code maxLocals ret, Jvm.Cond.code ({ cls := "com/example/forking_paths/forkingpaths/io/OpIsBinaryPinLaw", name := "pick", desc := "(I)Lcom/example/forking_paths/forkingpaths/io/SmvExpression$Op;" } : Jvm.MethodName) method_2_code (1 : Nat) (Option.some (Jvm.ClassFile.FieldType.object "com/example/forking_paths/forkingpaths/io/SmvExpression$Op")), Jvm.Cond.code ({ cls := "com/example/forking_paths/forkingpaths/io/SmvExpression$Op", name := "isBinary", desc := "()Z" } : Jvm.MethodName) prog_44_method_6_code (1 : Nat) (Option.some Jvm.ClassFile.FieldType.boolean)]
set_option maxRecDepth 65536 in
theorem codes_eq : words1.filter isCode = codes1 := rfl
theorem w_codes : ∀ c ∈ words1.filter isCode, c.before args0 about1 = true := by
  rw [codes_eq]
  intro c hc
  simp only [codes1, List.mem_cons, List.not_mem_nil, or_false] at hc
  rcases hc with rfl | rfl | rfl
  · exact w_c0
  · exact w_c1
  · exact w_c2
set_option maxRecDepth 65536 in
theorem w_t1 : (words1.take 24).all (fun c => isCode c || c.before args0 about1) = true := by decide +kernel
set_option maxRecDepth 65536 in
theorem w_t2 : ((words1.drop 24).take 24).all (fun c => isCode c || c.before args0 about1) = true := by decide +kernel
set_option maxRecDepth 65536 in
theorem w_t3 : ((words1.drop 24).drop 24).all (fun c => isCode c || c.before args0 about1) = true := by decide +kernel
theorem w_tables : (allAtoms (Jvm.Cond.code x code maxLocals ret :: tables_1)).before args0 about1 = true := by
  rw [allAtoms_all]
  show words1.all (fun c => c.before args0 about1) = true
  refine all_split ?_ w_codes
  rw [← List.take_append_drop 24 words1, List.all_append, w_t1, ← List.take_append_drop 24 (words1.drop 24), List.all_append, w_t2, w_t3]
  rfl
set_option maxRecDepth 65536 in
theorem w_case : (Jvm.Cond.and given_1 narrow_1).before args0 about1 = true := by decide +kernel
theorem w_applies : (headSpec (Jvm.Cond.code x code maxLocals ret :: tables_1) room_1).applies x e0.platform about1 = true :=
  (Spec.applies_iff w_frames).mpr ⟨w_running, w_runnable, w_alone, w_named, w_hears, w_ripe, w_room, w_tables⟩
theorem atStart : AtStart classFile x code maxLocals ret World_1 tables_1 room_1 Calls_1 rest_1 Pre_1 launch0 p0 e0 about1 theMethod args0 below0 :=
  ⟨lists_1, trivial, launch0.admits_env _ _ _, launch0.least_env, fairChoices_fair.cas, fairChoices_fair.clock, w_frames, w_args, w_heap, w_applies, trivial, trivial, w_case⟩
end start1
theorem witness_1 : WitnessClaimed_1 := ⟨start1.p0, start1.e0, start1.about1, start1.theMethod, start1.args0, start1.below0, start1.atStart⟩
end Jvm.Pilot.@@N@@
