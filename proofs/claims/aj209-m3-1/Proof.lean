import JvmDerived
import JvmDerived.Pilot.@@N@@Statement
import JvmDerived.Pilot.@@N@@Code
set_option linter.unusedVariables false
set_option linter.unusedSimpArgs false
namespace Jvm.Pilot.@@N@@
open Jvm Jvm.ClassFile Sem Op Lib Jvm.Free Jvm.Stand Jvm.LawKit Jvm.RoadKit Bundle Jvm.Pilot.@@N@@.Jvm.D
section Own
variable {p : Program} {l : Launch} {e : Env} {R : Room} {s : State} {m : MethodId} {args : Array Value} {below : List Frame} {meth : Method} {c : Code} {T : State} {locs : List Loc} {cells slots : Nat} {Z : State} {a0 : Array Value} {K : State → Outcome → Prop} {pc pc' : Nat} {Ls : Array Slot} {st : List Value} {h : Heap}
/-- from here the run ends, and what is left is as K says -/
def own_Go (p : Program) (e : Env) (below : List Frame) (K : State → Outcome → Prop) (T : State) (f : JFrame) : Prop :=
  ∃ s₂ o, Steps p.tables e below (T.setTop f) s₂ ∧ s₂.status = .running ∧ Ended s₂ below o ∧ K s₂ o
def own_K (Q : Option Value → Heap → List Loc → Prop) (s : State) (cs ss : Nat) : State → Outcome → Prop := fun u o => ∃ v L, o = .returned v ∧ Q v u.heap L ∧ FrameEnd s o u L cs ss
theorem own_go {T' : State} {f f' : JFrame} (h : ∀ t, Steps p.tables e below (T'.setTop f') t → Steps p.tables e below (T.setTop f) t) (k : own_Go p e below K T' f') : own_Go p e below K T f := by
  obtain ⟨a, b, c, d⟩ := k
  exact ⟨a, b, h _ c, d⟩
theorem own_w {tb : List Jvm.Cond} (hw : ∀ d ∈ tb, d.before a0 Z = true) {d : Jvm.Cond} (k : Nat) (h : tb[k]? = some d) : d.before a0 Z = true := hw _ (List.mem_of_getElem? h)
/-- a method's contract: called with these arguments over this heap it returns, and Q says what it leaves -/
abbrev own_Met (l : Launch) (Z : State) (y : MethodName) (bytes : ByteArray) (mx : Nat) (rt : Option FieldType) (ws : List Jvm.Cond) (rm : Room) (as : Array Value) (h0 : Heap) (Q : Option Value → Heap → List Loc → Prop) : Prop :=
  MetFree l y (head1 (Jvm.Cond.code y bytes mx rt :: ws) rm) (fun a U => a = as ∧ Z.Warmed39 U.vm ∧ U.heap = h0) (fun _ _ _ _ _ => True) (fun _ U o U' => ∃ v L, o = .returned v ∧ Q v U'.heap L ∧ FrameEnd U o U' L rm.cells rm.slots)
theorem own_body {y : MethodName} {bytes : ByteArray} {mx : Nat} {rt : Option FieldType} {ws : List Jvm.Cond} {rm : Room} {as : Array Value} {h0 : Heap} {Q : Option Value → Heap → List Loc → Prop} (hp : plainFor y = true)
    (body : ∀ (p : Program) (e : Env) (s : State) (m : MethodId) (below : List Frame) (meth : Method) (c : Code) (T : State), Stand p l e rm s m as below meth c T [] 0 0 → p.tables.exec = Jvm.exec → c.code = bytes → c.maxLocals = mx → meth.sig.returnType = rt → meth.locks = false → Z.Warmed39 s.vm → s.vm.findClass y.cls = some m.cls → meth.name = y.name → T.heap = h0 →
      own_Go p e below (own_K Q s rm.cells rm.slots) T (entryFrame m as mx)) : own_Met l Z y bytes mx rt ws rm as h0 Q := by
  refine MetFree.of_bodySF hp hisR ?_
  intro p e s m args below meth c s₁ Bd hml0 hP hK
  obtain ⟨rfl, hZ, hh⟩ := hP
  exact body p e s m below meth c s₁ (Stand.of_body Bd) Bd.exec Bd.bytes hml0 Bd.returns Bd.notSynchronized hZ (findClass_of_methodNamed Bd.named) (name_of_methodNamed Bd.named Bd.method).1 (by rw [← hh, Bd.state]; rfl)
theorem own_ret (X : Stand p l e R s m args below meth c T locs cells slots) (hx : p.tables.exec = Jvm.exec) {Q : Option Value → Heap → List Loc → Prop} {cs ss : Nat} {w : Value} {t : FieldType} {i : Instr} {rest : List Value} (hlk : meth.locks = false) (hret : meth.sig.returnType = some t) (hd : decode c.code pc = .ok (i, 1)) (hn : narrow t w = w)
    (hi : (i = .ireturn ∧ (t = .int ∨ t = .boolean ∨ t = .byte ∨ t = .char ∨ t = .short) ∧ ∃ z, w = .int z) ∨ (i = .lreturn ∧ t = .long ∧ ∃ z, w = .long z) ∨ (i = .dreturn ∧ t = .double ∧ ∃ z, w = .double z) ∨ (i = .freturn ∧ t = .float ∧ ∃ z, w = .float z) ∨ (i = .areturn ∧ t.isReference = true ∧ w.isRef = true))
    (hc : cells ≤ cs) (hs : slots ≤ ss) (hq : Q (some w) T.heap locs) : own_Go p e below (own_K Q s cs ss) T (mkF m pc Ls (w :: rest)) := by
  obtain ⟨fs, hr, hrun, hended, hW, hsame⟩ := X.leave (v := some w) (fun h => by rw [hret] at h; cases h) hlk
  exact ⟨_, _, retOut X hx hret hn hi hd hr, hrun, hended, _, _, rfl, hq, ⟨_, rfl⟩, hW, hsame.mono hc hs⟩
theorem own_retI (X : Stand p l e R s m args below meth c T locs cells slots) (hx : p.tables.exec = Jvm.exec) {Q : Option Value → Heap → List Loc → Prop} {cs ss : Nat} {z : Int32} {rest : List Value} (hlk : meth.locks = false) (hret : meth.sig.returnType = some .int) (hd : decode c.code pc = .ok (.ireturn, 1)) (hc : cells ≤ cs) (hs : slots ≤ ss) (hq : Q (some (.int z)) T.heap locs) : own_Go p e below (own_K Q s cs ss) T (mkF m pc Ls (.int z :: rest)) :=
  own_ret X hx hlk hret hd rfl (Or.inl ⟨rfl, Or.inl rfl, z, rfl⟩) hc hs hq
theorem own_retZ (X : Stand p l e R s m args below meth c T locs cells slots) (hx : p.tables.exec = Jvm.exec) {Q : Option Value → Heap → List Loc → Prop} {cs ss : Nat} {z : Int32} {rest : List Value} (hlk : meth.locks = false) (hret : meth.sig.returnType = some .boolean) (hd : decode c.code pc = .ok (.ireturn, 1)) (hn : z = 0 ∨ z = 1) (hc : cells ≤ cs) (hs : slots ≤ ss) (hq : Q (some (.int z)) T.heap locs) : own_Go p e below (own_K Q s cs ss) T (mkF m pc Ls (.int z :: rest)) :=
  own_ret X hx hlk hret hd (by rcases hn with rfl | rfl <;> rfl) (Or.inl ⟨rfl, Or.inr (Or.inl rfl), z, rfl⟩) hc hs hq
theorem own_retJ (X : Stand p l e R s m args below meth c T locs cells slots) (hx : p.tables.exec = Jvm.exec) {Q : Option Value → Heap → List Loc → Prop} {cs ss : Nat} {z : Int64} {rest : List Value} (hlk : meth.locks = false) (hret : meth.sig.returnType = some .long) (hd : decode c.code pc = .ok (.lreturn, 1)) (hc : cells ≤ cs) (hs : slots ≤ ss) (hq : Q (some (.long z)) T.heap locs) : own_Go p e below (own_K Q s cs ss) T (mkF m pc Ls (.long z :: rest)) :=
  own_ret X hx hlk hret hd rfl (Or.inr (Or.inl ⟨rfl, rfl, z, rfl⟩)) hc hs hq
theorem own_retA (X : Stand p l e R s m args below meth c T locs cells slots) (hx : p.tables.exec = Jvm.exec) {Q : Option Value → Heap → List Loc → Prop} {cs ss : Nat} {w : Value} {t : FieldType} {rest : List Value} (hlk : meth.locks = false) (hret : meth.sig.returnType = some t) (hd : decode c.code pc = .ok (.areturn, 1)) (ht : t.isReference = true) (hv : w.isRef = true) (hc : cells ≤ cs) (hs : slots ≤ ss) (hq : Q (some w) T.heap locs) : own_Go p e below (own_K Q s cs ss) T (mkF m pc Ls (w :: rest)) :=
  own_ret X hx hlk hret hd (by rcases ref_cases hv with rfl | ⟨a, rfl⟩ <;> cases t <;> first | rfl | cases ht) (Or.inr (Or.inr (Or.inr (Or.inr ⟨rfl, ht, hv⟩)))) hc hs hq
theorem own_retV (X : Stand p l e R s m args below meth c T locs cells slots) (hx : p.tables.exec = Jvm.exec) {Q : Option Value → Heap → List Loc → Prop} {cs ss : Nat} (hlk : meth.locks = false) (hret : meth.sig.returnType = none) (hd : decode c.code pc = .ok (.return_, 1)) (hc : cells ≤ cs) (hs : slots ≤ ss) (hq : Q none T.heap locs) : own_Go p e below (own_K Q s cs ss) T (mkF m pc Ls []) := by
  obtain ⟨fs, hr, hrun, hended, hW, hsame⟩ := X.leave (v := none) (fun _ => rfl) hlk
  exact ⟨_, _, X.returnOut hx hret hd hr, hrun, hended, _, _, rfl, hq, ⟨_, rfl⟩, hW, hsame.mono hc hs⟩
/-- the two roads of a conditional branch -/
theorem own_if (X : Stand p l e R s m args below meth c T locs cells slots) (hx : p.tables.exec = Jvm.exec) {cd : ClassFile.Cond} {o : Int} {z : Int32} {rest : List Value} (hd : decode c.code pc = .ok (.ifCond cd o, 3)) (ho : 0 ≤ (pc : Int) + o) (hp : ((pc : Int) + o).toNat = pc') {pc1 : Nat} (hp1 : pc + 3 = pc1) (P : Prop) (h1 : P → ifCond.holds cd z = true) (h2 : ¬ P → ifCond.holds cd z = false)
    (kt : P → own_Go p e below K T (mkF m pc' Ls rest)) (kf : ¬ P → own_Go p e below K T (mkF m pc1 Ls rest)) : own_Go p e below K T (mkF m pc Ls (.int z :: rest)) := by
  subst hp1
  by_cases q : P
  · exact own_go (fun t k => XS.ifYes X.here hx (g := mkF m pc Ls (.int z :: rest)) rfl (pc0 := pc) (pc' := pc') rfl hd rfl (h1 q) ho hp k) (kt q)
  · exact own_go (fun t k => XS.ifNo X.here hx (g := mkF m pc Ls (.int z :: rest)) rfl hd rfl (h2 q) k) (kf q)
theorem own_icmp (X : Stand p l e R s m args below meth c T locs cells slots) (hx : p.tables.exec = Jvm.exec) {cd : ClassFile.Cond} {o : Int} {y z : Int32} {rest : List Value} (hd : decode c.code pc = .ok (.if_icmp cd o, 3)) (ho : 0 ≤ (pc : Int) + o) (hp : ((pc : Int) + o).toNat = pc') {pc1 : Nat} (hp1 : pc + 3 = pc1) (P : Prop) (h1 : P → if_icmp.holds cd y z = true) (h2 : ¬ P → if_icmp.holds cd y z = false)
    (kt : P → own_Go p e below K T (mkF m pc' Ls rest)) (kf : ¬ P → own_Go p e below K T (mkF m pc1 Ls rest)) : own_Go p e below K T (mkF m pc Ls (.int z :: .int y :: rest)) := by
  subst hp1
  by_cases q : P
  · exact own_go (fun t k => XS.icmpYes X.here hx (g := mkF m pc Ls (.int z :: .int y :: rest)) rfl (pc0 := pc) (pc' := pc') rfl hd rfl (h1 q) ho hp k) (kt q)
  · exact own_go (fun t k => XS.icmpNo X.here hx (g := mkF m pc Ls (.int z :: .int y :: rest)) rfl hd rfl (h2 q) k) (kf q)
theorem own_callS (X : Stand p l e R s m args below meth c T locs cells slots) (hx : p.tables.exec = Jvm.exec) (hZ : Z.Warmed39 s.vm) {own : String} {index : Nat} {y : MethodName} {bytes : ByteArray} {mx : Nat} {rt : Option FieldType} {rm : Room} {argsL rest : List Value} {Q : Option Value → Heap → List Loc → Prop}
    (hown : s.vm.findClass own = some m.cls) (w1 : (Jvm.Cond.methodLink own index y).before a0 Z = true) (w2 : (Jvm.Cond.static y).before a0 Z = true) (w3 : (Jvm.Cond.initialized y.cls).before a0 Z = true) (w4 : (Jvm.Cond.code y bytes mx rt).before a0 Z = true) (hy : y.cls ≠ "java/lang/invoke/MethodHandle" ∧ y.cls ≠ "java/lang/invoke/VarHandle")
    (eT : T.heap = h) (hM : own_Met l Z y bytes mx rt [] rm argsL.toArray h Q) (W : Nat) (hf : rm.frames + 1 ≤ R.frames) (hl : W + (mx + 11) + rm.locals ≤ R.locals) (hcl : cells + rm.cells ≤ R.cells) (hsl : slots + rm.slots ≤ R.slots) (hsz : Ls.size = c.maxLocals) (hlen : ∀ sig, parseMethodDescriptor y.desc = some sig → argsL.length = sig.parameters.length)
    (hst : st = argsL.reverse ++ rest) (hW : (rest.map fun v => v.category).sum ≤ W) (hd : decode c.code pc = .ok (.invokestatic index, 3)) :
    ∃ v T' L, Stand p l e R s m args below meth c T' (locs ++ L) (cells + rm.cells) (slots + rm.slots) ∧ Q v T'.heap L ∧ ∀ t, Steps p.tables e below (T'.setTop (mkF m (pc + 3) Ls (v.toList ++ rest))) t → Steps p.tables e below (T.setTop (mkF m pc Ls st)) t := by
  obtain ⟨v, vm1, ⟨T', L', k', n'⟩, -, X', ⟨L, hQ, l1, l2, l3⟩, stp⟩ := Jvm.LawKit.callS X hx (y := y) hown (mvT hZ w1) (mvT hZ w2) (mvT hZ w3) (mvT hZ w4) hy (backOf (W := W) hM hZ w4 w3 hf hl) (g := mkF m pc Ls st) rfl hsz (argsL := argsL) (rest := rest) hlen hst (by show 2 * 0 + _ ≤ _; omega) hd (fun _ _ => ⟨rfl, eT, hcl, hsl⟩)
  dsimp only [Pt.U, Pt.locs, Pt.cells, Pt.slots] at X' l1 l2 l3 stp hQ
  subst l1 l2 l3
  exact ⟨v, T', L, X', hQ, stp⟩
theorem own_callV (X : Stand p l e R s m args below meth c T locs cells slots) (hx : p.tables.exec = Jvm.exec) (hZ : Z.Warmed39 s.vm) {own C : String} {index : Nat} {y z : MethodName} {bytes : ByteArray} {mx : Nat} {rt : Option FieldType} {rm : Room} {b : Addr} {argsL rest : List Value} {Q : Option Value → Heap → List Loc → Prop}
    (hown : s.vm.findClass own = some m.cls) (w1 : (Jvm.Cond.methodLink own index y).before a0 Z = true) (w2 : (Jvm.Cond.declares y).before a0 Z = true) (w3 : (Jvm.Cond.selects C y z).before a0 Z = true) (hnf : NotFace s y) (w4 : (Jvm.Cond.instanceMethod z).before a0 Z = true) (w5 : (Jvm.Cond.code z bytes mx rt).before a0 Z = true) (w6 : (Jvm.Cond.initialized z.cls).before a0 Z = true) (hy : y.cls ≠ "java/lang/invoke/MethodHandle" ∧ y.cls ≠ "java/lang/invoke/VarHandle")
    (eT : T.heap = h) (E : Exa Z h b C) (hM : own_Met l Z z bytes mx rt [] rm (.ref b :: argsL).toArray h Q) (W : Nat) (hf : rm.frames + 1 ≤ R.frames) (hl : W + (mx + 11) + rm.locals ≤ R.locals) (hcl : cells + rm.cells ≤ R.cells) (hsl : slots + rm.slots ≤ R.slots) (hsz : Ls.size = c.maxLocals) (hlen : ∀ sig, parseMethodDescriptor y.desc = some sig → argsL.length = sig.parameters.length)
    (hst : st = argsL.reverse ++ .ref b :: rest) (hW : (rest.map fun v => v.category).sum ≤ W) (hd : decode c.code pc = .ok (.invokevirtual index, 3)) :
    ∃ v T' L, Stand p l e R s m args below meth c T' (locs ++ L) (cells + rm.cells) (slots + rm.slots) ∧ Q v T'.heap L ∧ ∀ t, Steps p.tables e below (T'.setTop (mkF m (pc + 3) Ls (v.toList ++ rest))) t → Steps p.tables e below (T.setTop (mkF m pc Ls st)) t := by
  obtain ⟨cq, kq, q1, q2, q3⟩ := isOf hZ eT E
  obtain ⟨v, vm1, ⟨T', L', k', n'⟩, -, X', ⟨L, hQ, l1, l2, l3⟩, stp⟩ := X.virtualBack hx (y := y) (z := z) hown (mvT hZ w1) (mvT hZ w2) hnf (mvT hZ w3) (mvT hZ w4) hy (backOf (W := W) hM hZ w5 w6 hf hl) q1 q3 (g := mkF m pc Ls st) rfl hsz (Steps.refl _) (argsL := argsL) (rest := rest) hlen hst (by show 2 * 0 + _ ≤ _; omega) hd (fun _ _ => ⟨rfl, eT, hcl, hsl⟩)
  dsimp only [Pt.U, Pt.locs, Pt.cells, Pt.slots] at X' l1 l2 l3 stp hQ
  subst l1 l2 l3
  exact ⟨v, T', L, X', hQ, fun t k => stp.trans k⟩
theorem own_callU (X : Stand p l e R s m args below meth c T locs cells slots) (hx : p.tables.exec = Jvm.exec) (hZ : Z.Warmed39 s.vm) {own C owner : String} {index : Nat} {y z : MethodName} {bytes : ByteArray} {mx : Nat} {rt : Option FieldType} {rm : Room} {b : Addr} {argsL rest : List Value} {Q : Option Value → Heap → List Loc → Prop}
    (hown : s.vm.findClass own = some m.cls) (w1 : (Jvm.Cond.methodLink own index y).before a0 Z = true) (w2 : (Jvm.Cond.sameMethod y.cls owner y.name y.desc).before a0 Z = true) (w2' : (Jvm.Cond.declares ⟨owner, y.name, y.desc⟩).before a0 Z = true) (w3 : (Jvm.Cond.selects C y z).before a0 Z = true) (w4 : (Jvm.Cond.instanceMethod z).before a0 Z = true) (w5 : (Jvm.Cond.code z bytes mx rt).before a0 Z = true) (w6 : (Jvm.Cond.initialized z.cls).before a0 Z = true) (hy : owner ≠ "java/lang/invoke/MethodHandle" ∧ owner ≠ "java/lang/invoke/VarHandle")
    (eT : T.heap = h) (E : Exa Z h b C) (hM : own_Met l Z z bytes mx rt [] rm (.ref b :: argsL).toArray h Q) (W : Nat) (hf : rm.frames + 1 ≤ R.frames) (hl : W + (mx + 11) + rm.locals ≤ R.locals) (hcl : cells + rm.cells ≤ R.cells) (hsl : slots + rm.slots ≤ R.slots) (hsz : Ls.size = c.maxLocals) (hlen : ∀ sig, parseMethodDescriptor y.desc = some sig → argsL.length = sig.parameters.length)
    (hst : st = argsL.reverse ++ .ref b :: rest) (hW : (rest.map fun v => v.category).sum ≤ W) (hd : decode c.code pc = .ok (.invokevirtual index, 3)) :
    ∃ v T' L, Stand p l e R s m args below meth c T' (locs ++ L) (cells + rm.cells) (slots + rm.slots) ∧ Q v T'.heap L ∧ ∀ t, Steps p.tables e below (T'.setTop (mkF m (pc + 3) Ls (v.toList ++ rest))) t → Steps p.tables e below (T.setTop (mkF m pc Ls st)) t := by
  obtain ⟨cq, kq, q1, q2, q3⟩ := isOf hZ eT E
  obtain ⟨v, vm1, ⟨T', L', k', n'⟩, -, X', ⟨L, hQ, l1, l2, l3⟩, stp⟩ := X.virtualBackUp hx (x := y) (y := z) hown (mvT hZ w1) (mvT hZ w2) (mvT hZ w2') hy (mvT hZ w3) (mvT hZ w4) (backOf (W := W) hM hZ w5 w6 hf hl) q1 q3 (g := mkF m pc Ls st) rfl hsz (Steps.refl _) (argsL := argsL) (rest := rest) hlen hst (by show 2 * 0 + _ ≤ _; omega) hd (fun _ _ => ⟨rfl, eT, hcl, hsl⟩)
  dsimp only [Pt.U, Pt.locs, Pt.cells, Pt.slots] at X' l1 l2 l3 stp hQ
  subst l1 l2 l3
  exact ⟨v, T', L, X', hQ, fun t k => stp.trans k⟩
theorem own_callC (X : Stand p l e R s m args below meth c T locs cells slots) (hx : p.tables.exec = Jvm.exec) (hZ : Z.Warmed39 s.vm) {own : String} {index : Nat} {y : MethodName} {bytes : ByteArray} {mx : Nat} {rm : Room} {b : Addr} {argsL rest : List Value} {Q : Option Value → Heap → List Loc → Prop}
    (hy1 : y.name = "<init>") (hown : s.vm.findClass own = some m.cls) (w1 : (Jvm.Cond.methodLink own index y).before a0 Z = true) (w4 : (Jvm.Cond.instanceMethod y).before a0 Z = true) (w5 : (Jvm.Cond.code y bytes mx none).before a0 Z = true) (w6 : (Jvm.Cond.initialized y.cls).before a0 Z = true) (hy : y.cls ≠ "java/lang/invoke/MethodHandle" ∧ y.cls ≠ "java/lang/invoke/VarHandle")
    (eT : T.heap = h) (hM : own_Met l Z y bytes mx none [] rm (.ref b :: argsL).toArray h Q) (W : Nat) (hf : rm.frames + 1 ≤ R.frames) (hl : W + (mx + 11) + rm.locals ≤ R.locals) (hcl : cells + rm.cells ≤ R.cells) (hsl : slots + rm.slots ≤ R.slots) (hsz : Ls.size = c.maxLocals) (hlen : ∀ sig, parseMethodDescriptor y.desc = some sig → argsL.length = sig.parameters.length)
    (hst : st = argsL.reverse ++ .ref b :: rest) (hW : (rest.map fun v => v.category).sum ≤ W) (hd : decode c.code pc = .ok (.invokespecial index, 3)) :
    ∃ v T' L, Stand p l e R s m args below meth c T' (locs ++ L) (cells + rm.cells) (slots + rm.slots) ∧ Q v T'.heap L ∧ ∀ t, Steps p.tables e below (T'.setTop (mkF m (pc + 3) Ls (v.toList ++ rest))) t → Steps p.tables e below (T.setTop (mkF m pc Ls st)) t := by
  obtain ⟨v, vm1, ⟨T', L', k', n'⟩, -, X', ⟨L, hQ, l1, l2, l3⟩, stp⟩ := X.specialBack hx (y := y) hy1 hown (mvT hZ w1) (mvT hZ w4) (mvT hZ w5) hy (backOf (W := W) hM hZ w5 w6 hf hl) (g := mkF m pc Ls st) rfl hsz (Steps.refl _) (a := b) (argsL := argsL) (rest := rest) hlen hst (by show 2 * 0 + _ ≤ _; omega) hd (fun _ _ => ⟨rfl, eT, hcl, hsl⟩)
  dsimp only [Pt.U, Pt.locs, Pt.cells, Pt.slots] at X' l1 l2 l3 stp hQ
  subst l1 l2 l3
  exact ⟨v, T', L, X', hQ, fun t k => stp.trans k⟩
end Own
theorem pn_com_example_forking_paths_forkingpaths_io_SmvValue : plainName "com/example/forking_paths/forkingpaths/io/SmvValue" = true := by first | (simp [plainName, overriddenIn]; done) | decide +kernel
theorem ef_1 (m : MethodId) (x0 : Int32) : entryFrame m #[(.int x0)] 1 = mkF m 0 #[.val (.int x0)] [] := by first | (simp [entryFrame, mkF, argsToLocals, Value.category]; done) | rfl
theorem d1_0 : decode prog_68_method_2_code 0 = .ok (.iload_n 0, 1) := by decide +kernel
theorem d1_1 : decode prog_68_method_2_code 1 = .ok (.ifCond .eq 9, 3) := by decide +kernel
theorem d1_10 : decode prog_68_method_2_code 10 = .ok (.getstatic 13, 3) := by decide +kernel
theorem d1_13 : decode prog_68_method_2_code 13 = .ok (.lreturn, 1) := by decide +kernel
theorem d1_4 : decode prog_68_method_2_code 4 = .ok (.getstatic 7, 3) := by decide +kernel
theorem d1_7 : decode prog_68_method_2_code 7 = .ok (.goto 6, 3) := by decide +kernel
theorem ef_2 (m : MethodId) (x0 : Int64) : entryFrame m #[(.long x0)] 2 = mkF m 0 #[.val (.long x0), .second] [] := by first | (simp [entryFrame, mkF, argsToLocals, Value.category]; done) | rfl
theorem d2_0 : decode prog_68_method_6_code 0 = .ok (.lload_n 0, 1) := by decide +kernel
theorem d2_1 : decode prog_68_method_6_code 1 = .ok (.bipush 32, 2) := by decide +kernel
theorem d2_3 : decode prog_68_method_6_code 3 = .ok (.lushr, 1) := by decide +kernel
theorem d2_4 : decode prog_68_method_6_code 4 = .ok (.l2i, 1) := by decide +kernel
theorem d2_5 : decode prog_68_method_6_code 5 = .ok (.ireturn, 1) := by decide +kernel
theorem ef_3 (m : MethodId) (x0 : Int64) : entryFrame m #[(.long x0)] 2 = mkF m 0 #[.val (.long x0), .second] [] := by first | (simp [entryFrame, mkF, argsToLocals, Value.category]; done) | rfl
theorem d3_0 : decode prog_68_method_7_code 0 = .ok (.lload_n 0, 1) := by decide +kernel
theorem d3_1 : decode prog_68_method_7_code 1 = .ok (.l2i, 1) := by decide +kernel
theorem d3_2 : decode prog_68_method_7_code 2 = .ok (.ireturn, 1) := by decide +kernel
theorem pn_com_example_forking_paths_forkingpaths_io_SmvValueBoolPinLaw : plainName "com/example/forking_paths/forkingpaths/io/SmvValueBoolPinLaw" = true := by first | (simp [plainName, overriddenIn]; done) | decide +kernel
theorem ef_0 (m : MethodId) (x0 : Int32) : entryFrame m #[(.int x0)] maxLocals = mkF m 0 #[.val (.int x0), .unset, .unset, .unset, .unset, .unset, .unset, .unset, .unset, .unset] [] := by first | (simp [entryFrame, mkF, argsToLocals, Value.category, maxLocals]; done) | rfl
theorem pd_2 : parseMethodDescriptor "(Z)J" = some ⟨[.boolean], some .long⟩ := by decide +kernel
theorem pd_1 : parseMethodDescriptor "(J)I" = some ⟨[.long], some .int⟩ := by decide +kernel
set_option maxRecDepth 65536 in
set_option maxHeartbeats 40000000 in
theorem rm1f (l : Launch) (Z : State) (a0 : Array Value) (hw : ∀ d ∈ tables_1, d.before a0 Z = true) (ws : List Jvm.Cond) (p1 : Int32) (h0 : Heap) (n0 : Nat) (Z0 : n0 ≤ h0.size) (S_FALSE : Sta Z h0 "com/example/forking_paths/forkingpaths/io/SmvValue" "FALSE" "J" (.long (4294967296 : Int64))) (S_TRUE : Sta Z h0 "com/example/forking_paths/forkingpaths/io/SmvValue" "TRUE" "J" (.long (4294967297 : Int64))) (hc : p1 = 0) :
    own_Met l Z (⟨"com/example/forking_paths/forkingpaths/io/SmvValue", "bool", "(Z)J"⟩ : MethodName) prog_68_method_2_code 1 (some .long) ws ({ frames := 0, cells := 0, slots := 0, locals := 0 } : Room) #[(.int p1)] h0 (fun v h L => v = some (.long (4294967296 : Int64)) ∧ Fr n0 L ∧ h = h0) := by
  refine own_body (by first | exact plainFor_of_name pn_com_example_forking_paths_forkingpaths_io_SmvValue | decide +kernel) ?_
  intro p e s m below meth c T0 X0 hx hby hml hret hlk hZ hown hnm e0
  have hown : s.vm.findClass "com/example/forking_paths/forkingpaths/io/SmvValue" = some m.cls := hown
  have hnm : meth.name = "bool" := hnm
  have N0 := Fr.nil n0
  rw [ef_1 m p1]
  show own_Go p e below _ T0 (mkF m 0 #[.val (.int p1)] [])
  refine own_go (fun t k => XS.iloadN X0.here hx rfl (hb hby d1_0) rfl k) ?_
  show own_Go p e below _ T0 (mkF m 1 #[.val (.int p1)] [(.int p1)])
  refine own_go (fun t k => XS.ifYes X0.here hx rfl (pc0 := 1) (pc' := 10) rfl (hb hby d1_1) rfl (XT.i0_eq_t hc) (by decide) (by decide) k) ?_
  show own_Go p e below _ T0 (mkF m 10 #[.val (.int p1)] [])
  obtain ⟨T1, X1, e1, st1⟩ := getS2 X0 hx hZ hown (host := "") (Or.inl (own_w hw 4 rfl)) Via.refl e0 S_FALSE (g := (mkF m 10 #[.val (.int p1)] [])) rfl (hb hby d1_10)
  refine own_go st1 ?_
  show own_Go p e below _ T1 (mkF m 13 #[.val (.int p1)] [(.long (4294967296 : Int64))])
  refine own_retJ X1 hx hlk hret (hb hby d1_13) (by decide) (by decide) ?_
  exact ⟨rfl, N0, e1⟩
set_option maxRecDepth 65536 in
set_option maxHeartbeats 40000000 in
theorem rm1t (l : Launch) (Z : State) (a0 : Array Value) (hw : ∀ d ∈ tables_1, d.before a0 Z = true) (ws : List Jvm.Cond) (p1 : Int32) (h0 : Heap) (n0 : Nat) (Z0 : n0 ≤ h0.size) (S_FALSE : Sta Z h0 "com/example/forking_paths/forkingpaths/io/SmvValue" "FALSE" "J" (.long (4294967296 : Int64))) (S_TRUE : Sta Z h0 "com/example/forking_paths/forkingpaths/io/SmvValue" "TRUE" "J" (.long (4294967297 : Int64))) (hc : ¬ p1 = 0) :
    own_Met l Z (⟨"com/example/forking_paths/forkingpaths/io/SmvValue", "bool", "(Z)J"⟩ : MethodName) prog_68_method_2_code 1 (some .long) ws ({ frames := 0, cells := 0, slots := 0, locals := 0 } : Room) #[(.int p1)] h0 (fun v h L => v = some (.long (4294967297 : Int64)) ∧ Fr n0 L ∧ h = h0) := by
  refine own_body (by first | exact plainFor_of_name pn_com_example_forking_paths_forkingpaths_io_SmvValue | decide +kernel) ?_
  intro p e s m below meth c T0 X0 hx hby hml hret hlk hZ hown hnm e0
  have hown : s.vm.findClass "com/example/forking_paths/forkingpaths/io/SmvValue" = some m.cls := hown
  have hnm : meth.name = "bool" := hnm
  have N0 := Fr.nil n0
  rw [ef_1 m p1]
  show own_Go p e below _ T0 (mkF m 0 #[.val (.int p1)] [])
  refine own_go (fun t k => XS.iloadN X0.here hx rfl (hb hby d1_0) rfl k) ?_
  show own_Go p e below _ T0 (mkF m 1 #[.val (.int p1)] [(.int p1)])
  refine own_go (fun t k => XS.ifNo X0.here hx rfl (hb hby d1_1) rfl (XT.i0_eq_f hc) k) ?_
  show own_Go p e below _ T0 (mkF m 4 #[.val (.int p1)] [])
  obtain ⟨T1, X1, e1, st1⟩ := getS2 X0 hx hZ hown (host := "") (Or.inl (own_w hw 13 rfl)) Via.refl e0 S_TRUE (g := (mkF m 4 #[.val (.int p1)] [])) rfl (hb hby d1_4)
  refine own_go st1 ?_
  show own_Go p e below _ T1 (mkF m 7 #[.val (.int p1)] [(.long (4294967297 : Int64))])
  refine own_go (fun t k => XS.goto X1.here hx rfl (pc0 := 7) (pc' := 13) rfl (hb hby d1_7) (by decide) (by decide) k) ?_
  show own_Go p e below _ T1 (mkF m 13 #[.val (.int p1)] [(.long (4294967297 : Int64))])
  refine own_retJ X1 hx hlk hret (hb hby d1_13) (by decide) (by decide) ?_
  exact ⟨rfl, N0, e1⟩
set_option maxRecDepth 65536 in
set_option maxHeartbeats 40000000 in
theorem rm2 (l : Launch) (Z : State) (a0 : Array Value) (hw : ∀ d ∈ tables_1, d.before a0 Z = true) (ws : List Jvm.Cond) (p1 : Int64) (h0 : Heap) (n0 : Nat) (Z0 : n0 ≤ h0.size) :
    own_Met l Z (⟨"com/example/forking_paths/forkingpaths/io/SmvValue", "kind", "(J)I"⟩ : MethodName) prog_68_method_6_code 2 (some .int) ws ({ frames := 0, cells := 0, slots := 0, locals := 0 } : Room) #[(.long p1)] h0 (fun v h L => v = some (.int (p1.toUInt64 >>> ((32 : Int32) &&& 0x3f).toInt64.toUInt64).toInt64.toInt32) ∧ Fr n0 L ∧ h = h0) := by
  refine own_body (by first | exact plainFor_of_name pn_com_example_forking_paths_forkingpaths_io_SmvValue | decide +kernel) ?_
  intro p e s m below meth c T0 X0 hx hby hml hret hlk hZ hown hnm e0
  have hown : s.vm.findClass "com/example/forking_paths/forkingpaths/io/SmvValue" = some m.cls := hown
  have hnm : meth.name = "kind" := hnm
  have N0 := Fr.nil n0
  rw [ef_2 m p1]
  show own_Go p e below _ T0 (mkF m 0 #[.val (.long p1), .second] [])
  refine own_go (fun t k => XS.lloadN X0.here hx rfl (hb hby d2_0) rfl k) ?_
  show own_Go p e below _ T0 (mkF m 1 #[.val (.long p1), .second] [(.long p1)])
  refine own_go (fun t k => XS.bipush X0.here hx rfl (hb hby d2_1) k) ?_
  show own_Go p e below _ T0 (mkF m 3 #[.val (.long p1), .second] [(.int (32 : Int32)), (.long p1)])
  refine own_go (fun t k => XS.lushr X0.here hx rfl (hb hby d2_3) rfl k) ?_
  show own_Go p e below _ T0 (mkF m 4 #[.val (.long p1), .second] [(.long ((p1.toUInt64 >>> ((32 : Int32) &&& 0x3f).toInt64.toUInt64).toInt64))])
  refine own_go (fun t k => XS.l2i X0.here hx rfl (hb hby d2_4) rfl k) ?_
  show own_Go p e below _ T0 (mkF m 5 #[.val (.long p1), .second] [(.int ((p1.toUInt64 >>> ((32 : Int32) &&& 0x3f).toInt64.toUInt64).toInt64).toInt32)])
  refine own_retI X0 hx hlk hret (hb hby d2_5) (by decide) (by decide) ?_
  exact ⟨rfl, N0, e0⟩
set_option maxRecDepth 65536 in
set_option maxHeartbeats 40000000 in
theorem rm3 (l : Launch) (Z : State) (a0 : Array Value) (hw : ∀ d ∈ tables_1, d.before a0 Z = true) (ws : List Jvm.Cond) (p1 : Int64) (h0 : Heap) (n0 : Nat) (Z0 : n0 ≤ h0.size) :
    own_Met l Z (⟨"com/example/forking_paths/forkingpaths/io/SmvValue", "payload", "(J)I"⟩ : MethodName) prog_68_method_7_code 2 (some .int) ws ({ frames := 0, cells := 0, slots := 0, locals := 0 } : Room) #[(.long p1)] h0 (fun v h L => v = some (.int p1.toInt32) ∧ Fr n0 L ∧ h = h0) := by
  refine own_body (by first | exact plainFor_of_name pn_com_example_forking_paths_forkingpaths_io_SmvValue | decide +kernel) ?_
  intro p e s m below meth c T0 X0 hx hby hml hret hlk hZ hown hnm e0
  have hown : s.vm.findClass "com/example/forking_paths/forkingpaths/io/SmvValue" = some m.cls := hown
  have hnm : meth.name = "payload" := hnm
  have N0 := Fr.nil n0
  rw [ef_3 m p1]
  show own_Go p e below _ T0 (mkF m 0 #[.val (.long p1), .second] [])
  refine own_go (fun t k => XS.lloadN X0.here hx rfl (hb hby d3_0) rfl k) ?_
  show own_Go p e below _ T0 (mkF m 1 #[.val (.long p1), .second] [(.long p1)])
  refine own_go (fun t k => XS.l2i X0.here hx rfl (hb hby d3_1) rfl k) ?_
  show own_Go p e below _ T0 (mkF m 2 #[.val (.long p1), .second] [(.int p1.toInt32)])
  refine own_retI X0 hx hlk hret (hb hby d3_2) (by decide) (by decide) ?_
  exact ⟨rfl, N0, e0⟩
set_option maxRecDepth 65536 in
set_option maxHeartbeats 40000000 in
theorem rm0 (l : Launch) (Z : State) (a0 : Array Value) (hw : ∀ d ∈ tables_1, d.before a0 Z = true) (ws : List Jvm.Cond) (p1 : Int32) (h0 : Heap) (n0 : Nat) (Z0 : n0 ≤ h0.size) (S_FALSE : Sta Z h0 "com/example/forking_paths/forkingpaths/io/SmvValue" "FALSE" "J" (.long (4294967296 : Int64))) (S_TRUE : Sta Z h0 "com/example/forking_paths/forkingpaths/io/SmvValue" "TRUE" "J" (.long (4294967297 : Int64))) :
    own_Met l Z x code maxLocals ret ws room_1 #[(.int p1)] h0 (fun v h L => v = some (.int 1) ∧ Fr n0 L) := by
  refine own_body (by first | exact plainFor_of_name pn_com_example_forking_paths_forkingpaths_io_SmvValueBoolPinLaw | decide +kernel) ?_
  intro p e s m below meth c T0 X0 hx hby hml hret hlk hZ hown hnm e0
  have hown : s.vm.findClass "com/example/forking_paths/forkingpaths/io/SmvValueBoolPinLaw" = some m.cls := hown
  have hnm : meth.name = "law" := hnm
  have N0 := Fr.nil n0
  rw [ef_0 m p1]
  show own_Go p e below _ T0 (mkF m 0 #[.val (.int p1), .unset, .unset, .unset, .unset, .unset, .unset, .unset, .unset, .unset] [])
  refine own_go (fun t k => XS.iloadN X0.here hx rfl (hb hby at_0) rfl k) ?_
  show own_Go p e below _ T0 (mkF m 1 #[.val (.int p1), .unset, .unset, .unset, .unset, .unset, .unset, .unset, .unset, .unset] [(.int p1)])
  refine own_go (fun t k => XS.iconst X0.here hx rfl (hb hby at_1) k) ?_
  show own_Go p e below _ T0 (mkF m 2 #[.val (.int p1), .unset, .unset, .unset, .unset, .unset, .unset, .unset, .unset, .unset] [(.int (1 : Int32)), (.int p1)])
  refine own_go (fun t k => XS.iand X0.here hx rfl (hb hby at_2) rfl k) ?_
  show own_Go p e below _ T0 (mkF m 3 #[.val (.int p1), .unset, .unset, .unset, .unset, .unset, .unset, .unset, .unset, .unset] [(.int (p1 &&& (1 : Int32)))])
  by_cases hc3 : (p1 &&& (1 : Int32)) = 0
  · show own_Go p e below _ T0 (mkF m 3 #[.val (.int p1), .unset, .unset, .unset, .unset, .unset, .unset, .unset, .unset, .unset] [(.int (p1 &&& (1 : Int32)))])
    refine own_go (fun t k => XS.ifYes X0.here hx rfl (pc0 := 3) (pc' := 10) rfl (hb hby at_3) rfl (XT.i0_eq_t hc3) (by decide) (by decide) k) ?_
    show own_Go p e below _ T0 (mkF m 10 #[.val (.int p1), .unset, .unset, .unset, .unset, .unset, .unset, .unset, .unset, .unset] [])
    refine own_go (fun t k => XS.iconst X0.here hx rfl (hb hby at_10) k) ?_
    show own_Go p e below _ T0 (mkF m 11 #[.val (.int p1), .unset, .unset, .unset, .unset, .unset, .unset, .unset, .unset, .unset] [(.int (0 : Int32))])
    refine own_go (fun t k => XS.istoreN X0.here hx rfl (hb hby at_11) rfl (l' := #[.val (.int p1), .val (.int (0 : Int32)), .unset, .unset, .unset, .unset, .unset, .unset, .unset, .unset]) rfl k) ?_
    show own_Go p e below _ T0 (mkF m 12 #[.val (.int p1), .val (.int (0 : Int32)), .unset, .unset, .unset, .unset, .unset, .unset, .unset, .unset] [])
    refine own_go (fun t k => XS.iloadN X0.here hx rfl (hb hby at_12) rfl k) ?_
    show own_Go p e below _ T0 (mkF m 13 #[.val (.int p1), .val (.int (0 : Int32)), .unset, .unset, .unset, .unset, .unset, .unset, .unset, .unset] [(.int (0 : Int32))])
    obtain ⟨_, T1, L1, X1, ⟨rfl, N1, e1⟩, st1⟩ := own_callS X0 hx hZ (y := (⟨"com/example/forking_paths/forkingpaths/io/SmvValue", "bool", "(Z)J"⟩ : MethodName)) (argsL := [(.int (0 : Int32))]) (rest := []) (Ls := #[.val (.int p1), .val (.int (0 : Int32)), .unset, .unset, .unset, .unset, .unset, .unset, .unset, .unset]) hown (own_w hw 0 rfl) (own_w hw 1 rfl) (own_w hw 2 rfl) (own_w hw 3 rfl) (by decide) e0 (rm1f l Z a0 hw [] (0 : Int32) h0 n0 Z0 S_FALSE S_TRUE (by decide)) 0 (by decide) (by decide) (by decide) (by decide) (by rw [hml]; rfl) (lenOf pd_2 rfl) rfl (Nat.le_of_eq rfl) (hb hby at_13)
    have M1 := Fr.app N0 N1
    refine own_go st1 ?_
    show own_Go p e below _ T1 (mkF m 16 #[.val (.int p1), .val (.int (0 : Int32)), .unset, .unset, .unset, .unset, .unset, .unset, .unset, .unset] [(.long (4294967296 : Int64))])
    refine own_go (fun t k => XS.lstoreN X1.here hx rfl (hb hby at_16) rfl (l' := #[.val (.int p1), .val (.int (0 : Int32)), .val (.long (4294967296 : Int64)), .second, .unset, .unset, .unset, .unset, .unset, .unset]) rfl k) ?_
    show own_Go p e below _ T1 (mkF m 17 #[.val (.int p1), .val (.int (0 : Int32)), .val (.long (4294967296 : Int64)), .second, .unset, .unset, .unset, .unset, .unset, .unset] [])
    refine own_go (fun t k => X1.ldc2Long hx hown (mvT hZ (own_w hw 6 rfl)) (g := (mkF m 17 #[.val (.int p1), .val (.int (0 : Int32)), .val (.long (4294967296 : Int64)), .second, .unset, .unset, .unset, .unset, .unset, .unset] [])) rfl (hb hby at_17) t k) ?_
    show own_Go p e below _ T1 (mkF m 20 #[.val (.int p1), .val (.int (0 : Int32)), .val (.long (4294967296 : Int64)), .second, .unset, .unset, .unset, .unset, .unset, .unset] [(.long (4294967296 : Int64))])
    refine own_go (fun t k => XS.iloadN X1.here hx rfl (hb hby at_20) rfl k) ?_
    show own_Go p e below _ T1 (mkF m 21 #[.val (.int p1), .val (.int (0 : Int32)), .val (.long (4294967296 : Int64)), .second, .unset, .unset, .unset, .unset, .unset, .unset] [(.int (0 : Int32)), (.long (4294967296 : Int64))])
    refine own_go (fun t k => XS.ifYes X1.here hx rfl (pc0 := 21) (pc' := 28) rfl (hb hby at_21) rfl (XT.i0_eq_t (by decide)) (by decide) (by decide) k) ?_
    show own_Go p e below _ T1 (mkF m 28 #[.val (.int p1), .val (.int (0 : Int32)), .val (.long (4294967296 : Int64)), .second, .unset, .unset, .unset, .unset, .unset, .unset] [(.long (4294967296 : Int64))])
    refine own_go (fun t k => XS.lconst X1.here hx rfl (hb hby at_28) k) ?_
    show own_Go p e below _ T1 (mkF m 29 #[.val (.int p1), .val (.int (0 : Int32)), .val (.long (4294967296 : Int64)), .second, .unset, .unset, .unset, .unset, .unset, .unset] [(.long (0 : Int64)), (.long (4294967296 : Int64))])
    refine own_go (fun t k => XS.ladd X1.here hx rfl (hb hby at_29) rfl k) ?_
    show own_Go p e below _ T1 (mkF m 30 #[.val (.int p1), .val (.int (0 : Int32)), .val (.long (4294967296 : Int64)), .second, .unset, .unset, .unset, .unset, .unset, .unset] [(.long ((4294967296 : Int64) + (0 : Int64)))])
    rw [show ((4294967296 : Int64) + (0 : Int64)) = (4294967296 : Int64) from by decide]
    show own_Go p e below _ T1 (mkF m 30 #[.val (.int p1), .val (.int (0 : Int32)), .val (.long (4294967296 : Int64)), .second, .unset, .unset, .unset, .unset, .unset, .unset] [(.long (4294967296 : Int64))])
    refine own_go (fun t k => XS.lstore X1.here hx rfl (hb hby at_30) rfl (l' := #[.val (.int p1), .val (.int (0 : Int32)), .val (.long (4294967296 : Int64)), .second, .val (.long (4294967296 : Int64)), .second, .unset, .unset, .unset, .unset]) rfl k) ?_
    show own_Go p e below _ T1 (mkF m 32 #[.val (.int p1), .val (.int (0 : Int32)), .val (.long (4294967296 : Int64)), .second, .val (.long (4294967296 : Int64)), .second, .unset, .unset, .unset, .unset] [])
    refine own_go (fun t k => XS.lloadN X1.here hx rfl (hb hby at_32) rfl k) ?_
    show own_Go p e below _ T1 (mkF m 33 #[.val (.int p1), .val (.int (0 : Int32)), .val (.long (4294967296 : Int64)), .second, .val (.long (4294967296 : Int64)), .second, .unset, .unset, .unset, .unset] [(.long (4294967296 : Int64))])
    refine own_go (fun t k => XS.lload X1.here hx rfl (hb hby at_33) rfl k) ?_
    show own_Go p e below _ T1 (mkF m 35 #[.val (.int p1), .val (.int (0 : Int32)), .val (.long (4294967296 : Int64)), .second, .val (.long (4294967296 : Int64)), .second, .unset, .unset, .unset, .unset] [(.long (4294967296 : Int64)), (.long (4294967296 : Int64))])
    refine own_go (fun t k => XT.lcmp X1.here hx rfl (hb hby at_35) rfl k) ?_
    show own_Go p e below _ T1 (mkF m 36 #[.val (.int p1), .val (.int (0 : Int32)), .val (.long (4294967296 : Int64)), .second, .val (.long (4294967296 : Int64)), .second, .unset, .unset, .unset, .unset] [(.int (XT.cmpL (4294967296 : Int64) (4294967296 : Int64)))])
    refine own_go (fun t k => XS.ifNo X1.here hx rfl (hb hby at_36) rfl (XT.ll_ne_f (by decide)) k) ?_
    show own_Go p e below _ T1 (mkF m 39 #[.val (.int p1), .val (.int (0 : Int32)), .val (.long (4294967296 : Int64)), .second, .val (.long (4294967296 : Int64)), .second, .unset, .unset, .unset, .unset] [])
    refine own_go (fun t k => XS.iconst X1.here hx rfl (hb hby at_39) k) ?_
    show own_Go p e below _ T1 (mkF m 40 #[.val (.int p1), .val (.int (0 : Int32)), .val (.long (4294967296 : Int64)), .second, .val (.long (4294967296 : Int64)), .second, .unset, .unset, .unset, .unset] [(.int (1 : Int32))])
    refine own_go (fun t k => XS.goto X1.here hx rfl (pc0 := 40) (pc' := 44) rfl (hb hby at_40) (by decide) (by decide) k) ?_
    show own_Go p e below _ T1 (mkF m 44 #[.val (.int p1), .val (.int (0 : Int32)), .val (.long (4294967296 : Int64)), .second, .val (.long (4294967296 : Int64)), .second, .unset, .unset, .unset, .unset] [(.int (1 : Int32))])
    refine own_go (fun t k => XS.istore X1.here hx rfl (hb hby at_44) rfl (l' := #[.val (.int p1), .val (.int (0 : Int32)), .val (.long (4294967296 : Int64)), .second, .val (.long (4294967296 : Int64)), .second, .val (.int (1 : Int32)), .unset, .unset, .unset]) rfl k) ?_
    show own_Go p e below _ T1 (mkF m 46 #[.val (.int p1), .val (.int (0 : Int32)), .val (.long (4294967296 : Int64)), .second, .val (.long (4294967296 : Int64)), .second, .val (.int (1 : Int32)), .unset, .unset, .unset] [])
    refine own_go (fun t k => XS.lloadN X1.here hx rfl (hb hby at_46) rfl k) ?_
    show own_Go p e below _ T1 (mkF m 47 #[.val (.int p1), .val (.int (0 : Int32)), .val (.long (4294967296 : Int64)), .second, .val (.long (4294967296 : Int64)), .second, .val (.int (1 : Int32)), .unset, .unset, .unset] [(.long (4294967296 : Int64))])
    obtain ⟨_, T2, L2, X2, ⟨rfl, N2, e2⟩, st2⟩ := own_callS X1 hx hZ (y := (⟨"com/example/forking_paths/forkingpaths/io/SmvValue", "kind", "(J)I"⟩ : MethodName)) (argsL := [(.long (4294967296 : Int64))]) (rest := []) (Ls := #[.val (.int p1), .val (.int (0 : Int32)), .val (.long (4294967296 : Int64)), .second, .val (.long (4294967296 : Int64)), .second, .val (.int (1 : Int32)), .unset, .unset, .unset]) hown (own_w hw 7 rfl) (own_w hw 8 rfl) (own_w hw 2 rfl) (own_w hw 9 rfl) (by decide) e1 (rm2 l Z a0 hw [] (4294967296 : Int64) h0 n0 Z0) 0 (by decide) (by decide) (by decide) (by decide) (by rw [hml]; rfl) (lenOf pd_1 rfl) rfl (Nat.le_of_eq rfl) (hb hby at_47)
    have M2 := Fr.app M1 N2
    refine own_go st2 ?_
    show own_Go p e below _ T2 (mkF m 50 #[.val (.int p1), .val (.int (0 : Int32)), .val (.long (4294967296 : Int64)), .second, .val (.long (4294967296 : Int64)), .second, .val (.int (1 : Int32)), .unset, .unset, .unset] [(.int ((4294967296 : Int64).toUInt64 >>> ((32 : Int32) &&& 0x3f).toInt64.toUInt64).toInt64.toInt32)])
    refine own_go (fun t k => XS.iconst X2.here hx rfl (hb hby at_50) k) ?_
    show own_Go p e below _ T2 (mkF m 51 #[.val (.int p1), .val (.int (0 : Int32)), .val (.long (4294967296 : Int64)), .second, .val (.long (4294967296 : Int64)), .second, .val (.int (1 : Int32)), .unset, .unset, .unset] [(.int (1 : Int32)), (.int ((4294967296 : Int64).toUInt64 >>> ((32 : Int32) &&& 0x3f).toInt64.toUInt64).toInt64.toInt32)])
    refine own_go (fun t k => XS.icmpNo X2.here hx rfl (hb hby at_51) rfl (XT.ii_ne_f (by decide)) k) ?_
    show own_Go p e below _ T2 (mkF m 54 #[.val (.int p1), .val (.int (0 : Int32)), .val (.long (4294967296 : Int64)), .second, .val (.long (4294967296 : Int64)), .second, .val (.int (1 : Int32)), .unset, .unset, .unset] [])
    refine own_go (fun t k => XS.iconst X2.here hx rfl (hb hby at_54) k) ?_
    show own_Go p e below _ T2 (mkF m 55 #[.val (.int p1), .val (.int (0 : Int32)), .val (.long (4294967296 : Int64)), .second, .val (.long (4294967296 : Int64)), .second, .val (.int (1 : Int32)), .unset, .unset, .unset] [(.int (1 : Int32))])
    refine own_go (fun t k => XS.goto X2.here hx rfl (pc0 := 55) (pc' := 59) rfl (hb hby at_55) (by decide) (by decide) k) ?_
    show own_Go p e below _ T2 (mkF m 59 #[.val (.int p1), .val (.int (0 : Int32)), .val (.long (4294967296 : Int64)), .second, .val (.long (4294967296 : Int64)), .second, .val (.int (1 : Int32)), .unset, .unset, .unset] [(.int (1 : Int32))])
    refine own_go (fun t k => XS.istore X2.here hx rfl (hb hby at_59) rfl (l' := #[.val (.int p1), .val (.int (0 : Int32)), .val (.long (4294967296 : Int64)), .second, .val (.long (4294967296 : Int64)), .second, .val (.int (1 : Int32)), .val (.int (1 : Int32)), .unset, .unset]) rfl k) ?_
    show own_Go p e below _ T2 (mkF m 61 #[.val (.int p1), .val (.int (0 : Int32)), .val (.long (4294967296 : Int64)), .second, .val (.long (4294967296 : Int64)), .second, .val (.int (1 : Int32)), .val (.int (1 : Int32)), .unset, .unset] [])
    refine own_go (fun t k => XS.lloadN X2.here hx rfl (hb hby at_61) rfl k) ?_
    show own_Go p e below _ T2 (mkF m 62 #[.val (.int p1), .val (.int (0 : Int32)), .val (.long (4294967296 : Int64)), .second, .val (.long (4294967296 : Int64)), .second, .val (.int (1 : Int32)), .val (.int (1 : Int32)), .unset, .unset] [(.long (4294967296 : Int64))])
    obtain ⟨_, T3, L3, X3, ⟨rfl, N3, e3⟩, st3⟩ := own_callS X2 hx hZ (y := (⟨"com/example/forking_paths/forkingpaths/io/SmvValue", "payload", "(J)I"⟩ : MethodName)) (argsL := [(.long (4294967296 : Int64))]) (rest := []) (Ls := #[.val (.int p1), .val (.int (0 : Int32)), .val (.long (4294967296 : Int64)), .second, .val (.long (4294967296 : Int64)), .second, .val (.int (1 : Int32)), .val (.int (1 : Int32)), .unset, .unset]) hown (own_w hw 10 rfl) (own_w hw 11 rfl) (own_w hw 2 rfl) (own_w hw 12 rfl) (by decide) e2 (rm3 l Z a0 hw [] (4294967296 : Int64) h0 n0 Z0) 0 (by decide) (by decide) (by decide) (by decide) (by rw [hml]; rfl) (lenOf pd_1 rfl) rfl (Nat.le_of_eq rfl) (hb hby at_62)
    have M3 := Fr.app M2 N3
    refine own_go st3 ?_
    show own_Go p e below _ T3 (mkF m 65 #[.val (.int p1), .val (.int (0 : Int32)), .val (.long (4294967296 : Int64)), .second, .val (.long (4294967296 : Int64)), .second, .val (.int (1 : Int32)), .val (.int (1 : Int32)), .unset, .unset] [(.int (4294967296 : Int64).toInt32)])
    refine own_go (fun t k => XS.iloadN X3.here hx rfl (hb hby at_65) rfl k) ?_
    show own_Go p e below _ T3 (mkF m 66 #[.val (.int p1), .val (.int (0 : Int32)), .val (.long (4294967296 : Int64)), .second, .val (.long (4294967296 : Int64)), .second, .val (.int (1 : Int32)), .val (.int (1 : Int32)), .unset, .unset] [(.int (0 : Int32)), (.int (4294967296 : Int64).toInt32)])
    refine own_go (fun t k => XS.ifYes X3.here hx rfl (pc0 := 66) (pc' := 73) rfl (hb hby at_66) rfl (XT.i0_eq_t (by decide)) (by decide) (by decide) k) ?_
    show own_Go p e below _ T3 (mkF m 73 #[.val (.int p1), .val (.int (0 : Int32)), .val (.long (4294967296 : Int64)), .second, .val (.long (4294967296 : Int64)), .second, .val (.int (1 : Int32)), .val (.int (1 : Int32)), .unset, .unset] [(.int (4294967296 : Int64).toInt32)])
    refine own_go (fun t k => XS.iconst X3.here hx rfl (hb hby at_73) k) ?_
    show own_Go p e below _ T3 (mkF m 74 #[.val (.int p1), .val (.int (0 : Int32)), .val (.long (4294967296 : Int64)), .second, .val (.long (4294967296 : Int64)), .second, .val (.int (1 : Int32)), .val (.int (1 : Int32)), .unset, .unset] [(.int (0 : Int32)), (.int (4294967296 : Int64).toInt32)])
    refine own_go (fun t k => XS.icmpNo X3.here hx rfl (hb hby at_74) rfl (XT.ii_ne_f (by decide)) k) ?_
    show own_Go p e below _ T3 (mkF m 77 #[.val (.int p1), .val (.int (0 : Int32)), .val (.long (4294967296 : Int64)), .second, .val (.long (4294967296 : Int64)), .second, .val (.int (1 : Int32)), .val (.int (1 : Int32)), .unset, .unset] [])
    refine own_go (fun t k => XS.iconst X3.here hx rfl (hb hby at_77) k) ?_
    show own_Go p e below _ T3 (mkF m 78 #[.val (.int p1), .val (.int (0 : Int32)), .val (.long (4294967296 : Int64)), .second, .val (.long (4294967296 : Int64)), .second, .val (.int (1 : Int32)), .val (.int (1 : Int32)), .unset, .unset] [(.int (1 : Int32))])
    refine own_go (fun t k => XS.goto X3.here hx rfl (pc0 := 78) (pc' := 82) rfl (hb hby at_78) (by decide) (by decide) k) ?_
    show own_Go p e below _ T3 (mkF m 82 #[.val (.int p1), .val (.int (0 : Int32)), .val (.long (4294967296 : Int64)), .second, .val (.long (4294967296 : Int64)), .second, .val (.int (1 : Int32)), .val (.int (1 : Int32)), .unset, .unset] [(.int (1 : Int32))])
    refine own_go (fun t k => XS.istore X3.here hx rfl (hb hby at_82) rfl (l' := #[.val (.int p1), .val (.int (0 : Int32)), .val (.long (4294967296 : Int64)), .second, .val (.long (4294967296 : Int64)), .second, .val (.int (1 : Int32)), .val (.int (1 : Int32)), .val (.int (1 : Int32)), .unset]) rfl k) ?_
    show own_Go p e below _ T3 (mkF m 84 #[.val (.int p1), .val (.int (0 : Int32)), .val (.long (4294967296 : Int64)), .second, .val (.long (4294967296 : Int64)), .second, .val (.int (1 : Int32)), .val (.int (1 : Int32)), .val (.int (1 : Int32)), .unset] [])
    refine own_go (fun t k => XS.lloadN X3.here hx rfl (hb hby at_84) rfl k) ?_
    show own_Go p e below _ T3 (mkF m 85 #[.val (.int p1), .val (.int (0 : Int32)), .val (.long (4294967296 : Int64)), .second, .val (.long (4294967296 : Int64)), .second, .val (.int (1 : Int32)), .val (.int (1 : Int32)), .val (.int (1 : Int32)), .unset] [(.long (4294967296 : Int64))])
    refine own_go (fun t k => XS.iloadN X3.here hx rfl (hb hby at_85) rfl k) ?_
    show own_Go p e below _ T3 (mkF m 86 #[.val (.int p1), .val (.int (0 : Int32)), .val (.long (4294967296 : Int64)), .second, .val (.long (4294967296 : Int64)), .second, .val (.int (1 : Int32)), .val (.int (1 : Int32)), .val (.int (1 : Int32)), .unset] [(.int (0 : Int32)), (.long (4294967296 : Int64))])
    refine own_go (fun t k => XS.ifNo X3.here hx rfl (hb hby at_86) rfl (XT.i0_ne_f (by decide)) k) ?_
    show own_Go p e below _ T3 (mkF m 89 #[.val (.int p1), .val (.int (0 : Int32)), .val (.long (4294967296 : Int64)), .second, .val (.long (4294967296 : Int64)), .second, .val (.int (1 : Int32)), .val (.int (1 : Int32)), .val (.int (1 : Int32)), .unset] [(.long (4294967296 : Int64))])
    refine own_go (fun t k => XS.iconst X3.here hx rfl (hb hby at_89) k) ?_
    show own_Go p e below _ T3 (mkF m 90 #[.val (.int p1), .val (.int (0 : Int32)), .val (.long (4294967296 : Int64)), .second, .val (.long (4294967296 : Int64)), .second, .val (.int (1 : Int32)), .val (.int (1 : Int32)), .val (.int (1 : Int32)), .unset] [(.int (1 : Int32)), (.long (4294967296 : Int64))])
    refine own_go (fun t k => XS.goto X3.here hx rfl (pc0 := 90) (pc' := 94) rfl (hb hby at_90) (by decide) (by decide) k) ?_
    show own_Go p e below _ T3 (mkF m 94 #[.val (.int p1), .val (.int (0 : Int32)), .val (.long (4294967296 : Int64)), .second, .val (.long (4294967296 : Int64)), .second, .val (.int (1 : Int32)), .val (.int (1 : Int32)), .val (.int (1 : Int32)), .unset] [(.int (1 : Int32)), (.long (4294967296 : Int64))])
    obtain ⟨_, T4, L4, X4, ⟨rfl, N4, e4⟩, st4⟩ := own_callS X3 hx hZ (y := (⟨"com/example/forking_paths/forkingpaths/io/SmvValue", "bool", "(Z)J"⟩ : MethodName)) (argsL := [(.int (1 : Int32))]) (rest := [(.long (4294967296 : Int64))]) (Ls := #[.val (.int p1), .val (.int (0 : Int32)), .val (.long (4294967296 : Int64)), .second, .val (.long (4294967296 : Int64)), .second, .val (.int (1 : Int32)), .val (.int (1 : Int32)), .val (.int (1 : Int32)), .unset]) hown (own_w hw 0 rfl) (own_w hw 1 rfl) (own_w hw 2 rfl) (own_w hw 3 rfl) (by decide) e3 (rm1t l Z a0 hw [] (1 : Int32) h0 n0 Z0 S_FALSE S_TRUE (by decide)) 2 (by decide) (by decide) (by decide) (by decide) (by rw [hml]; rfl) (lenOf pd_2 rfl) rfl (Nat.le_of_eq rfl) (hb hby at_94)
    have M4 := Fr.app M3 N4
    refine own_go st4 ?_
    show own_Go p e below _ T4 (mkF m 97 #[.val (.int p1), .val (.int (0 : Int32)), .val (.long (4294967296 : Int64)), .second, .val (.long (4294967296 : Int64)), .second, .val (.int (1 : Int32)), .val (.int (1 : Int32)), .val (.int (1 : Int32)), .unset] [(.long (4294967297 : Int64)), (.long (4294967296 : Int64))])
    refine own_go (fun t k => XT.lcmp X4.here hx rfl (hb hby at_97) rfl k) ?_
    show own_Go p e below _ T4 (mkF m 98 #[.val (.int p1), .val (.int (0 : Int32)), .val (.long (4294967296 : Int64)), .second, .val (.long (4294967296 : Int64)), .second, .val (.int (1 : Int32)), .val (.int (1 : Int32)), .val (.int (1 : Int32)), .unset] [(.int (XT.cmpL (4294967296 : Int64) (4294967297 : Int64)))])
    refine own_go (fun t k => XS.ifNo X4.here hx rfl (hb hby at_98) rfl (XT.ll_eq_f (by decide)) k) ?_
    show own_Go p e below _ T4 (mkF m 101 #[.val (.int p1), .val (.int (0 : Int32)), .val (.long (4294967296 : Int64)), .second, .val (.long (4294967296 : Int64)), .second, .val (.int (1 : Int32)), .val (.int (1 : Int32)), .val (.int (1 : Int32)), .unset] [])
    refine own_go (fun t k => XS.iconst X4.here hx rfl (hb hby at_101) k) ?_
    show own_Go p e below _ T4 (mkF m 102 #[.val (.int p1), .val (.int (0 : Int32)), .val (.long (4294967296 : Int64)), .second, .val (.long (4294967296 : Int64)), .second, .val (.int (1 : Int32)), .val (.int (1 : Int32)), .val (.int (1 : Int32)), .unset] [(.int (1 : Int32))])
    refine own_go (fun t k => XS.goto X4.here hx rfl (pc0 := 102) (pc' := 106) rfl (hb hby at_102) (by decide) (by decide) k) ?_
    show own_Go p e below _ T4 (mkF m 106 #[.val (.int p1), .val (.int (0 : Int32)), .val (.long (4294967296 : Int64)), .second, .val (.long (4294967296 : Int64)), .second, .val (.int (1 : Int32)), .val (.int (1 : Int32)), .val (.int (1 : Int32)), .unset] [(.int (1 : Int32))])
    refine own_go (fun t k => XS.istore X4.here hx rfl (hb hby at_106) rfl (l' := #[.val (.int p1), .val (.int (0 : Int32)), .val (.long (4294967296 : Int64)), .second, .val (.long (4294967296 : Int64)), .second, .val (.int (1 : Int32)), .val (.int (1 : Int32)), .val (.int (1 : Int32)), .val (.int (1 : Int32))]) rfl k) ?_
    show own_Go p e below _ T4 (mkF m 108 #[.val (.int p1), .val (.int (0 : Int32)), .val (.long (4294967296 : Int64)), .second, .val (.long (4294967296 : Int64)), .second, .val (.int (1 : Int32)), .val (.int (1 : Int32)), .val (.int (1 : Int32)), .val (.int (1 : Int32))] [])
    refine own_go (fun t k => XS.iload X4.here hx rfl (hb hby at_108) rfl k) ?_
    show own_Go p e below _ T4 (mkF m 110 #[.val (.int p1), .val (.int (0 : Int32)), .val (.long (4294967296 : Int64)), .second, .val (.long (4294967296 : Int64)), .second, .val (.int (1 : Int32)), .val (.int (1 : Int32)), .val (.int (1 : Int32)), .val (.int (1 : Int32))] [(.int (1 : Int32))])
    refine own_go (fun t k => XS.ifNo X4.here hx rfl (hb hby at_110) rfl (XT.i0_eq_f (by decide)) k) ?_
    show own_Go p e below _ T4 (mkF m 113 #[.val (.int p1), .val (.int (0 : Int32)), .val (.long (4294967296 : Int64)), .second, .val (.long (4294967296 : Int64)), .second, .val (.int (1 : Int32)), .val (.int (1 : Int32)), .val (.int (1 : Int32)), .val (.int (1 : Int32))] [])
    refine own_go (fun t k => XS.iload X4.here hx rfl (hb hby at_113) rfl k) ?_
    show own_Go p e below _ T4 (mkF m 115 #[.val (.int p1), .val (.int (0 : Int32)), .val (.long (4294967296 : Int64)), .second, .val (.long (4294967296 : Int64)), .second, .val (.int (1 : Int32)), .val (.int (1 : Int32)), .val (.int (1 : Int32)), .val (.int (1 : Int32))] [(.int (1 : Int32))])
    refine own_go (fun t k => XS.ifNo X4.here hx rfl (hb hby at_115) rfl (XT.i0_eq_f (by decide)) k) ?_
    show own_Go p e below _ T4 (mkF m 118 #[.val (.int p1), .val (.int (0 : Int32)), .val (.long (4294967296 : Int64)), .second, .val (.long (4294967296 : Int64)), .second, .val (.int (1 : Int32)), .val (.int (1 : Int32)), .val (.int (1 : Int32)), .val (.int (1 : Int32))] [])
    refine own_go (fun t k => XS.iload X4.here hx rfl (hb hby at_118) rfl k) ?_
    show own_Go p e below _ T4 (mkF m 120 #[.val (.int p1), .val (.int (0 : Int32)), .val (.long (4294967296 : Int64)), .second, .val (.long (4294967296 : Int64)), .second, .val (.int (1 : Int32)), .val (.int (1 : Int32)), .val (.int (1 : Int32)), .val (.int (1 : Int32))] [(.int (1 : Int32))])
    refine own_go (fun t k => XS.ifNo X4.here hx rfl (hb hby at_120) rfl (XT.i0_eq_f (by decide)) k) ?_
    show own_Go p e below _ T4 (mkF m 123 #[.val (.int p1), .val (.int (0 : Int32)), .val (.long (4294967296 : Int64)), .second, .val (.long (4294967296 : Int64)), .second, .val (.int (1 : Int32)), .val (.int (1 : Int32)), .val (.int (1 : Int32)), .val (.int (1 : Int32))] [])
    refine own_go (fun t k => XS.iload X4.here hx rfl (hb hby at_123) rfl k) ?_
    show own_Go p e below _ T4 (mkF m 125 #[.val (.int p1), .val (.int (0 : Int32)), .val (.long (4294967296 : Int64)), .second, .val (.long (4294967296 : Int64)), .second, .val (.int (1 : Int32)), .val (.int (1 : Int32)), .val (.int (1 : Int32)), .val (.int (1 : Int32))] [(.int (1 : Int32))])
    refine own_go (fun t k => XS.ifNo X4.here hx rfl (hb hby at_125) rfl (XT.i0_eq_f (by decide)) k) ?_
    show own_Go p e below _ T4 (mkF m 128 #[.val (.int p1), .val (.int (0 : Int32)), .val (.long (4294967296 : Int64)), .second, .val (.long (4294967296 : Int64)), .second, .val (.int (1 : Int32)), .val (.int (1 : Int32)), .val (.int (1 : Int32)), .val (.int (1 : Int32))] [])
    refine own_go (fun t k => XS.iconst X4.here hx rfl (hb hby at_128) k) ?_
    show own_Go p e below _ T4 (mkF m 129 #[.val (.int p1), .val (.int (0 : Int32)), .val (.long (4294967296 : Int64)), .second, .val (.long (4294967296 : Int64)), .second, .val (.int (1 : Int32)), .val (.int (1 : Int32)), .val (.int (1 : Int32)), .val (.int (1 : Int32))] [(.int (1 : Int32))])
    refine own_go (fun t k => XS.goto X4.here hx rfl (pc0 := 129) (pc' := 133) rfl (hb hby at_129) (by decide) (by decide) k) ?_
    show own_Go p e below _ T4 (mkF m 133 #[.val (.int p1), .val (.int (0 : Int32)), .val (.long (4294967296 : Int64)), .second, .val (.long (4294967296 : Int64)), .second, .val (.int (1 : Int32)), .val (.int (1 : Int32)), .val (.int (1 : Int32)), .val (.int (1 : Int32))] [(.int (1 : Int32))])
    refine own_retZ X4 hx hlk hret (hb hby at_133) (Or.inr rfl) (by decide) (by decide) ?_
    exact ⟨rfl, M4⟩
  · show own_Go p e below _ T0 (mkF m 3 #[.val (.int p1), .unset, .unset, .unset, .unset, .unset, .unset, .unset, .unset, .unset] [(.int (p1 &&& (1 : Int32)))])
    refine own_go (fun t k => XS.ifNo X0.here hx rfl (hb hby at_3) rfl (XT.i0_eq_f hc3) k) ?_
    show own_Go p e below _ T0 (mkF m 6 #[.val (.int p1), .unset, .unset, .unset, .unset, .unset, .unset, .unset, .unset, .unset] [])
    refine own_go (fun t k => XS.iconst X0.here hx rfl (hb hby at_6) k) ?_
    show own_Go p e below _ T0 (mkF m 7 #[.val (.int p1), .unset, .unset, .unset, .unset, .unset, .unset, .unset, .unset, .unset] [(.int (1 : Int32))])
    refine own_go (fun t k => XS.goto X0.here hx rfl (pc0 := 7) (pc' := 11) rfl (hb hby at_7) (by decide) (by decide) k) ?_
    show own_Go p e below _ T0 (mkF m 11 #[.val (.int p1), .unset, .unset, .unset, .unset, .unset, .unset, .unset, .unset, .unset] [(.int (1 : Int32))])
    refine own_go (fun t k => XS.istoreN X0.here hx rfl (hb hby at_11) rfl (l' := #[.val (.int p1), .val (.int (1 : Int32)), .unset, .unset, .unset, .unset, .unset, .unset, .unset, .unset]) rfl k) ?_
    show own_Go p e below _ T0 (mkF m 12 #[.val (.int p1), .val (.int (1 : Int32)), .unset, .unset, .unset, .unset, .unset, .unset, .unset, .unset] [])
    refine own_go (fun t k => XS.iloadN X0.here hx rfl (hb hby at_12) rfl k) ?_
    show own_Go p e below _ T0 (mkF m 13 #[.val (.int p1), .val (.int (1 : Int32)), .unset, .unset, .unset, .unset, .unset, .unset, .unset, .unset] [(.int (1 : Int32))])
    obtain ⟨_, T5, L5, X5, ⟨rfl, N5, e5⟩, st5⟩ := own_callS X0 hx hZ (y := (⟨"com/example/forking_paths/forkingpaths/io/SmvValue", "bool", "(Z)J"⟩ : MethodName)) (argsL := [(.int (1 : Int32))]) (rest := []) (Ls := #[.val (.int p1), .val (.int (1 : Int32)), .unset, .unset, .unset, .unset, .unset, .unset, .unset, .unset]) hown (own_w hw 0 rfl) (own_w hw 1 rfl) (own_w hw 2 rfl) (own_w hw 3 rfl) (by decide) e0 (rm1t l Z a0 hw [] (1 : Int32) h0 n0 Z0 S_FALSE S_TRUE (by decide)) 0 (by decide) (by decide) (by decide) (by decide) (by rw [hml]; rfl) (lenOf pd_2 rfl) rfl (Nat.le_of_eq rfl) (hb hby at_13)
    have M5 := Fr.app N0 N5
    refine own_go st5 ?_
    show own_Go p e below _ T5 (mkF m 16 #[.val (.int p1), .val (.int (1 : Int32)), .unset, .unset, .unset, .unset, .unset, .unset, .unset, .unset] [(.long (4294967297 : Int64))])
    refine own_go (fun t k => XS.lstoreN X5.here hx rfl (hb hby at_16) rfl (l' := #[.val (.int p1), .val (.int (1 : Int32)), .val (.long (4294967297 : Int64)), .second, .unset, .unset, .unset, .unset, .unset, .unset]) rfl k) ?_
    show own_Go p e below _ T5 (mkF m 17 #[.val (.int p1), .val (.int (1 : Int32)), .val (.long (4294967297 : Int64)), .second, .unset, .unset, .unset, .unset, .unset, .unset] [])
    refine own_go (fun t k => X5.ldc2Long hx hown (mvT hZ (own_w hw 6 rfl)) (g := (mkF m 17 #[.val (.int p1), .val (.int (1 : Int32)), .val (.long (4294967297 : Int64)), .second, .unset, .unset, .unset, .unset, .unset, .unset] [])) rfl (hb hby at_17) t k) ?_
    show own_Go p e below _ T5 (mkF m 20 #[.val (.int p1), .val (.int (1 : Int32)), .val (.long (4294967297 : Int64)), .second, .unset, .unset, .unset, .unset, .unset, .unset] [(.long (4294967296 : Int64))])
    refine own_go (fun t k => XS.iloadN X5.here hx rfl (hb hby at_20) rfl k) ?_
    show own_Go p e below _ T5 (mkF m 21 #[.val (.int p1), .val (.int (1 : Int32)), .val (.long (4294967297 : Int64)), .second, .unset, .unset, .unset, .unset, .unset, .unset] [(.int (1 : Int32)), (.long (4294967296 : Int64))])
    refine own_go (fun t k => XS.ifNo X5.here hx rfl (hb hby at_21) rfl (XT.i0_eq_f (by decide)) k) ?_
    show own_Go p e below _ T5 (mkF m 24 #[.val (.int p1), .val (.int (1 : Int32)), .val (.long (4294967297 : Int64)), .second, .unset, .unset, .unset, .unset, .unset, .unset] [(.long (4294967296 : Int64))])
    refine own_go (fun t k => XS.lconst X5.here hx rfl (hb hby at_24) k) ?_
    show own_Go p e below _ T5 (mkF m 25 #[.val (.int p1), .val (.int (1 : Int32)), .val (.long (4294967297 : Int64)), .second, .unset, .unset, .unset, .unset, .unset, .unset] [(.long (1 : Int64)), (.long (4294967296 : Int64))])
    refine own_go (fun t k => XS.goto X5.here hx rfl (pc0 := 25) (pc' := 29) rfl (hb hby at_25) (by decide) (by decide) k) ?_
    show own_Go p e below _ T5 (mkF m 29 #[.val (.int p1), .val (.int (1 : Int32)), .val (.long (4294967297 : Int64)), .second, .unset, .unset, .unset, .unset, .unset, .unset] [(.long (1 : Int64)), (.long (4294967296 : Int64))])
    refine own_go (fun t k => XS.ladd X5.here hx rfl (hb hby at_29) rfl k) ?_
    show own_Go p e below _ T5 (mkF m 30 #[.val (.int p1), .val (.int (1 : Int32)), .val (.long (4294967297 : Int64)), .second, .unset, .unset, .unset, .unset, .unset, .unset] [(.long ((4294967296 : Int64) + (1 : Int64)))])
    rw [show ((4294967296 : Int64) + (1 : Int64)) = (4294967297 : Int64) from by decide]
    show own_Go p e below _ T5 (mkF m 30 #[.val (.int p1), .val (.int (1 : Int32)), .val (.long (4294967297 : Int64)), .second, .unset, .unset, .unset, .unset, .unset, .unset] [(.long (4294967297 : Int64))])
    refine own_go (fun t k => XS.lstore X5.here hx rfl (hb hby at_30) rfl (l' := #[.val (.int p1), .val (.int (1 : Int32)), .val (.long (4294967297 : Int64)), .second, .val (.long (4294967297 : Int64)), .second, .unset, .unset, .unset, .unset]) rfl k) ?_
    show own_Go p e below _ T5 (mkF m 32 #[.val (.int p1), .val (.int (1 : Int32)), .val (.long (4294967297 : Int64)), .second, .val (.long (4294967297 : Int64)), .second, .unset, .unset, .unset, .unset] [])
    refine own_go (fun t k => XS.lloadN X5.here hx rfl (hb hby at_32) rfl k) ?_
    show own_Go p e below _ T5 (mkF m 33 #[.val (.int p1), .val (.int (1 : Int32)), .val (.long (4294967297 : Int64)), .second, .val (.long (4294967297 : Int64)), .second, .unset, .unset, .unset, .unset] [(.long (4294967297 : Int64))])
    refine own_go (fun t k => XS.lload X5.here hx rfl (hb hby at_33) rfl k) ?_
    show own_Go p e below _ T5 (mkF m 35 #[.val (.int p1), .val (.int (1 : Int32)), .val (.long (4294967297 : Int64)), .second, .val (.long (4294967297 : Int64)), .second, .unset, .unset, .unset, .unset] [(.long (4294967297 : Int64)), (.long (4294967297 : Int64))])
    refine own_go (fun t k => XT.lcmp X5.here hx rfl (hb hby at_35) rfl k) ?_
    show own_Go p e below _ T5 (mkF m 36 #[.val (.int p1), .val (.int (1 : Int32)), .val (.long (4294967297 : Int64)), .second, .val (.long (4294967297 : Int64)), .second, .unset, .unset, .unset, .unset] [(.int (XT.cmpL (4294967297 : Int64) (4294967297 : Int64)))])
    refine own_go (fun t k => XS.ifNo X5.here hx rfl (hb hby at_36) rfl (XT.ll_ne_f (by decide)) k) ?_
    show own_Go p e below _ T5 (mkF m 39 #[.val (.int p1), .val (.int (1 : Int32)), .val (.long (4294967297 : Int64)), .second, .val (.long (4294967297 : Int64)), .second, .unset, .unset, .unset, .unset] [])
    refine own_go (fun t k => XS.iconst X5.here hx rfl (hb hby at_39) k) ?_
    show own_Go p e below _ T5 (mkF m 40 #[.val (.int p1), .val (.int (1 : Int32)), .val (.long (4294967297 : Int64)), .second, .val (.long (4294967297 : Int64)), .second, .unset, .unset, .unset, .unset] [(.int (1 : Int32))])
    refine own_go (fun t k => XS.goto X5.here hx rfl (pc0 := 40) (pc' := 44) rfl (hb hby at_40) (by decide) (by decide) k) ?_
    show own_Go p e below _ T5 (mkF m 44 #[.val (.int p1), .val (.int (1 : Int32)), .val (.long (4294967297 : Int64)), .second, .val (.long (4294967297 : Int64)), .second, .unset, .unset, .unset, .unset] [(.int (1 : Int32))])
    refine own_go (fun t k => XS.istore X5.here hx rfl (hb hby at_44) rfl (l' := #[.val (.int p1), .val (.int (1 : Int32)), .val (.long (4294967297 : Int64)), .second, .val (.long (4294967297 : Int64)), .second, .val (.int (1 : Int32)), .unset, .unset, .unset]) rfl k) ?_
    show own_Go p e below _ T5 (mkF m 46 #[.val (.int p1), .val (.int (1 : Int32)), .val (.long (4294967297 : Int64)), .second, .val (.long (4294967297 : Int64)), .second, .val (.int (1 : Int32)), .unset, .unset, .unset] [])
    refine own_go (fun t k => XS.lloadN X5.here hx rfl (hb hby at_46) rfl k) ?_
    show own_Go p e below _ T5 (mkF m 47 #[.val (.int p1), .val (.int (1 : Int32)), .val (.long (4294967297 : Int64)), .second, .val (.long (4294967297 : Int64)), .second, .val (.int (1 : Int32)), .unset, .unset, .unset] [(.long (4294967297 : Int64))])
    obtain ⟨_, T6, L6, X6, ⟨rfl, N6, e6⟩, st6⟩ := own_callS X5 hx hZ (y := (⟨"com/example/forking_paths/forkingpaths/io/SmvValue", "kind", "(J)I"⟩ : MethodName)) (argsL := [(.long (4294967297 : Int64))]) (rest := []) (Ls := #[.val (.int p1), .val (.int (1 : Int32)), .val (.long (4294967297 : Int64)), .second, .val (.long (4294967297 : Int64)), .second, .val (.int (1 : Int32)), .unset, .unset, .unset]) hown (own_w hw 7 rfl) (own_w hw 8 rfl) (own_w hw 2 rfl) (own_w hw 9 rfl) (by decide) e5 (rm2 l Z a0 hw [] (4294967297 : Int64) h0 n0 Z0) 0 (by decide) (by decide) (by decide) (by decide) (by rw [hml]; rfl) (lenOf pd_1 rfl) rfl (Nat.le_of_eq rfl) (hb hby at_47)
    have M6 := Fr.app M5 N6
    refine own_go st6 ?_
    show own_Go p e below _ T6 (mkF m 50 #[.val (.int p1), .val (.int (1 : Int32)), .val (.long (4294967297 : Int64)), .second, .val (.long (4294967297 : Int64)), .second, .val (.int (1 : Int32)), .unset, .unset, .unset] [(.int ((4294967297 : Int64).toUInt64 >>> ((32 : Int32) &&& 0x3f).toInt64.toUInt64).toInt64.toInt32)])
    refine own_go (fun t k => XS.iconst X6.here hx rfl (hb hby at_50) k) ?_
    show own_Go p e below _ T6 (mkF m 51 #[.val (.int p1), .val (.int (1 : Int32)), .val (.long (4294967297 : Int64)), .second, .val (.long (4294967297 : Int64)), .second, .val (.int (1 : Int32)), .unset, .unset, .unset] [(.int (1 : Int32)), (.int ((4294967297 : Int64).toUInt64 >>> ((32 : Int32) &&& 0x3f).toInt64.toUInt64).toInt64.toInt32)])
    refine own_go (fun t k => XS.icmpNo X6.here hx rfl (hb hby at_51) rfl (XT.ii_ne_f (by decide)) k) ?_
    show own_Go p e below _ T6 (mkF m 54 #[.val (.int p1), .val (.int (1 : Int32)), .val (.long (4294967297 : Int64)), .second, .val (.long (4294967297 : Int64)), .second, .val (.int (1 : Int32)), .unset, .unset, .unset] [])
    refine own_go (fun t k => XS.iconst X6.here hx rfl (hb hby at_54) k) ?_
    show own_Go p e below _ T6 (mkF m 55 #[.val (.int p1), .val (.int (1 : Int32)), .val (.long (4294967297 : Int64)), .second, .val (.long (4294967297 : Int64)), .second, .val (.int (1 : Int32)), .unset, .unset, .unset] [(.int (1 : Int32))])
    refine own_go (fun t k => XS.goto X6.here hx rfl (pc0 := 55) (pc' := 59) rfl (hb hby at_55) (by decide) (by decide) k) ?_
    show own_Go p e below _ T6 (mkF m 59 #[.val (.int p1), .val (.int (1 : Int32)), .val (.long (4294967297 : Int64)), .second, .val (.long (4294967297 : Int64)), .second, .val (.int (1 : Int32)), .unset, .unset, .unset] [(.int (1 : Int32))])
    refine own_go (fun t k => XS.istore X6.here hx rfl (hb hby at_59) rfl (l' := #[.val (.int p1), .val (.int (1 : Int32)), .val (.long (4294967297 : Int64)), .second, .val (.long (4294967297 : Int64)), .second, .val (.int (1 : Int32)), .val (.int (1 : Int32)), .unset, .unset]) rfl k) ?_
    show own_Go p e below _ T6 (mkF m 61 #[.val (.int p1), .val (.int (1 : Int32)), .val (.long (4294967297 : Int64)), .second, .val (.long (4294967297 : Int64)), .second, .val (.int (1 : Int32)), .val (.int (1 : Int32)), .unset, .unset] [])
    refine own_go (fun t k => XS.lloadN X6.here hx rfl (hb hby at_61) rfl k) ?_
    show own_Go p e below _ T6 (mkF m 62 #[.val (.int p1), .val (.int (1 : Int32)), .val (.long (4294967297 : Int64)), .second, .val (.long (4294967297 : Int64)), .second, .val (.int (1 : Int32)), .val (.int (1 : Int32)), .unset, .unset] [(.long (4294967297 : Int64))])
    obtain ⟨_, T7, L7, X7, ⟨rfl, N7, e7⟩, st7⟩ := own_callS X6 hx hZ (y := (⟨"com/example/forking_paths/forkingpaths/io/SmvValue", "payload", "(J)I"⟩ : MethodName)) (argsL := [(.long (4294967297 : Int64))]) (rest := []) (Ls := #[.val (.int p1), .val (.int (1 : Int32)), .val (.long (4294967297 : Int64)), .second, .val (.long (4294967297 : Int64)), .second, .val (.int (1 : Int32)), .val (.int (1 : Int32)), .unset, .unset]) hown (own_w hw 10 rfl) (own_w hw 11 rfl) (own_w hw 2 rfl) (own_w hw 12 rfl) (by decide) e6 (rm3 l Z a0 hw [] (4294967297 : Int64) h0 n0 Z0) 0 (by decide) (by decide) (by decide) (by decide) (by rw [hml]; rfl) (lenOf pd_1 rfl) rfl (Nat.le_of_eq rfl) (hb hby at_62)
    have M7 := Fr.app M6 N7
    refine own_go st7 ?_
    show own_Go p e below _ T7 (mkF m 65 #[.val (.int p1), .val (.int (1 : Int32)), .val (.long (4294967297 : Int64)), .second, .val (.long (4294967297 : Int64)), .second, .val (.int (1 : Int32)), .val (.int (1 : Int32)), .unset, .unset] [(.int (4294967297 : Int64).toInt32)])
    refine own_go (fun t k => XS.iloadN X7.here hx rfl (hb hby at_65) rfl k) ?_
    show own_Go p e below _ T7 (mkF m 66 #[.val (.int p1), .val (.int (1 : Int32)), .val (.long (4294967297 : Int64)), .second, .val (.long (4294967297 : Int64)), .second, .val (.int (1 : Int32)), .val (.int (1 : Int32)), .unset, .unset] [(.int (1 : Int32)), (.int (4294967297 : Int64).toInt32)])
    refine own_go (fun t k => XS.ifNo X7.here hx rfl (hb hby at_66) rfl (XT.i0_eq_f (by decide)) k) ?_
    show own_Go p e below _ T7 (mkF m 69 #[.val (.int p1), .val (.int (1 : Int32)), .val (.long (4294967297 : Int64)), .second, .val (.long (4294967297 : Int64)), .second, .val (.int (1 : Int32)), .val (.int (1 : Int32)), .unset, .unset] [(.int (4294967297 : Int64).toInt32)])
    refine own_go (fun t k => XS.iconst X7.here hx rfl (hb hby at_69) k) ?_
    show own_Go p e below _ T7 (mkF m 70 #[.val (.int p1), .val (.int (1 : Int32)), .val (.long (4294967297 : Int64)), .second, .val (.long (4294967297 : Int64)), .second, .val (.int (1 : Int32)), .val (.int (1 : Int32)), .unset, .unset] [(.int (1 : Int32)), (.int (4294967297 : Int64).toInt32)])
    refine own_go (fun t k => XS.goto X7.here hx rfl (pc0 := 70) (pc' := 74) rfl (hb hby at_70) (by decide) (by decide) k) ?_
    show own_Go p e below _ T7 (mkF m 74 #[.val (.int p1), .val (.int (1 : Int32)), .val (.long (4294967297 : Int64)), .second, .val (.long (4294967297 : Int64)), .second, .val (.int (1 : Int32)), .val (.int (1 : Int32)), .unset, .unset] [(.int (1 : Int32)), (.int (4294967297 : Int64).toInt32)])
    refine own_go (fun t k => XS.icmpNo X7.here hx rfl (hb hby at_74) rfl (XT.ii_ne_f (by decide)) k) ?_
    show own_Go p e below _ T7 (mkF m 77 #[.val (.int p1), .val (.int (1 : Int32)), .val (.long (4294967297 : Int64)), .second, .val (.long (4294967297 : Int64)), .second, .val (.int (1 : Int32)), .val (.int (1 : Int32)), .unset, .unset] [])
    refine own_go (fun t k => XS.iconst X7.here hx rfl (hb hby at_77) k) ?_
    show own_Go p e below _ T7 (mkF m 78 #[.val (.int p1), .val (.int (1 : Int32)), .val (.long (4294967297 : Int64)), .second, .val (.long (4294967297 : Int64)), .second, .val (.int (1 : Int32)), .val (.int (1 : Int32)), .unset, .unset] [(.int (1 : Int32))])
    refine own_go (fun t k => XS.goto X7.here hx rfl (pc0 := 78) (pc' := 82) rfl (hb hby at_78) (by decide) (by decide) k) ?_
    show own_Go p e below _ T7 (mkF m 82 #[.val (.int p1), .val (.int (1 : Int32)), .val (.long (4294967297 : Int64)), .second, .val (.long (4294967297 : Int64)), .second, .val (.int (1 : Int32)), .val (.int (1 : Int32)), .unset, .unset] [(.int (1 : Int32))])
    refine own_go (fun t k => XS.istore X7.here hx rfl (hb hby at_82) rfl (l' := #[.val (.int p1), .val (.int (1 : Int32)), .val (.long (4294967297 : Int64)), .second, .val (.long (4294967297 : Int64)), .second, .val (.int (1 : Int32)), .val (.int (1 : Int32)), .val (.int (1 : Int32)), .unset]) rfl k) ?_
    show own_Go p e below _ T7 (mkF m 84 #[.val (.int p1), .val (.int (1 : Int32)), .val (.long (4294967297 : Int64)), .second, .val (.long (4294967297 : Int64)), .second, .val (.int (1 : Int32)), .val (.int (1 : Int32)), .val (.int (1 : Int32)), .unset] [])
    refine own_go (fun t k => XS.lloadN X7.here hx rfl (hb hby at_84) rfl k) ?_
    show own_Go p e below _ T7 (mkF m 85 #[.val (.int p1), .val (.int (1 : Int32)), .val (.long (4294967297 : Int64)), .second, .val (.long (4294967297 : Int64)), .second, .val (.int (1 : Int32)), .val (.int (1 : Int32)), .val (.int (1 : Int32)), .unset] [(.long (4294967297 : Int64))])
    refine own_go (fun t k => XS.iloadN X7.here hx rfl (hb hby at_85) rfl k) ?_
    show own_Go p e below _ T7 (mkF m 86 #[.val (.int p1), .val (.int (1 : Int32)), .val (.long (4294967297 : Int64)), .second, .val (.long (4294967297 : Int64)), .second, .val (.int (1 : Int32)), .val (.int (1 : Int32)), .val (.int (1 : Int32)), .unset] [(.int (1 : Int32)), (.long (4294967297 : Int64))])
    refine own_go (fun t k => XS.ifYes X7.here hx rfl (pc0 := 86) (pc' := 93) rfl (hb hby at_86) rfl (XT.i0_ne_t (by decide)) (by decide) (by decide) k) ?_
    show own_Go p e below _ T7 (mkF m 93 #[.val (.int p1), .val (.int (1 : Int32)), .val (.long (4294967297 : Int64)), .second, .val (.long (4294967297 : Int64)), .second, .val (.int (1 : Int32)), .val (.int (1 : Int32)), .val (.int (1 : Int32)), .unset] [(.long (4294967297 : Int64))])
    refine own_go (fun t k => XS.iconst X7.here hx rfl (hb hby at_93) k) ?_
    show own_Go p e below _ T7 (mkF m 94 #[.val (.int p1), .val (.int (1 : Int32)), .val (.long (4294967297 : Int64)), .second, .val (.long (4294967297 : Int64)), .second, .val (.int (1 : Int32)), .val (.int (1 : Int32)), .val (.int (1 : Int32)), .unset] [(.int (0 : Int32)), (.long (4294967297 : Int64))])
    obtain ⟨_, T8, L8, X8, ⟨rfl, N8, e8⟩, st8⟩ := own_callS X7 hx hZ (y := (⟨"com/example/forking_paths/forkingpaths/io/SmvValue", "bool", "(Z)J"⟩ : MethodName)) (argsL := [(.int (0 : Int32))]) (rest := [(.long (4294967297 : Int64))]) (Ls := #[.val (.int p1), .val (.int (1 : Int32)), .val (.long (4294967297 : Int64)), .second, .val (.long (4294967297 : Int64)), .second, .val (.int (1 : Int32)), .val (.int (1 : Int32)), .val (.int (1 : Int32)), .unset]) hown (own_w hw 0 rfl) (own_w hw 1 rfl) (own_w hw 2 rfl) (own_w hw 3 rfl) (by decide) e7 (rm1f l Z a0 hw [] (0 : Int32) h0 n0 Z0 S_FALSE S_TRUE (by decide)) 2 (by decide) (by decide) (by decide) (by decide) (by rw [hml]; rfl) (lenOf pd_2 rfl) rfl (Nat.le_of_eq rfl) (hb hby at_94)
    have M8 := Fr.app M7 N8
    refine own_go st8 ?_
    show own_Go p e below _ T8 (mkF m 97 #[.val (.int p1), .val (.int (1 : Int32)), .val (.long (4294967297 : Int64)), .second, .val (.long (4294967297 : Int64)), .second, .val (.int (1 : Int32)), .val (.int (1 : Int32)), .val (.int (1 : Int32)), .unset] [(.long (4294967296 : Int64)), (.long (4294967297 : Int64))])
    refine own_go (fun t k => XT.lcmp X8.here hx rfl (hb hby at_97) rfl k) ?_
    show own_Go p e below _ T8 (mkF m 98 #[.val (.int p1), .val (.int (1 : Int32)), .val (.long (4294967297 : Int64)), .second, .val (.long (4294967297 : Int64)), .second, .val (.int (1 : Int32)), .val (.int (1 : Int32)), .val (.int (1 : Int32)), .unset] [(.int (XT.cmpL (4294967297 : Int64) (4294967296 : Int64)))])
    refine own_go (fun t k => XS.ifNo X8.here hx rfl (hb hby at_98) rfl (XT.ll_eq_f (by decide)) k) ?_
    show own_Go p e below _ T8 (mkF m 101 #[.val (.int p1), .val (.int (1 : Int32)), .val (.long (4294967297 : Int64)), .second, .val (.long (4294967297 : Int64)), .second, .val (.int (1 : Int32)), .val (.int (1 : Int32)), .val (.int (1 : Int32)), .unset] [])
    refine own_go (fun t k => XS.iconst X8.here hx rfl (hb hby at_101) k) ?_
    show own_Go p e below _ T8 (mkF m 102 #[.val (.int p1), .val (.int (1 : Int32)), .val (.long (4294967297 : Int64)), .second, .val (.long (4294967297 : Int64)), .second, .val (.int (1 : Int32)), .val (.int (1 : Int32)), .val (.int (1 : Int32)), .unset] [(.int (1 : Int32))])
    refine own_go (fun t k => XS.goto X8.here hx rfl (pc0 := 102) (pc' := 106) rfl (hb hby at_102) (by decide) (by decide) k) ?_
    show own_Go p e below _ T8 (mkF m 106 #[.val (.int p1), .val (.int (1 : Int32)), .val (.long (4294967297 : Int64)), .second, .val (.long (4294967297 : Int64)), .second, .val (.int (1 : Int32)), .val (.int (1 : Int32)), .val (.int (1 : Int32)), .unset] [(.int (1 : Int32))])
    refine own_go (fun t k => XS.istore X8.here hx rfl (hb hby at_106) rfl (l' := #[.val (.int p1), .val (.int (1 : Int32)), .val (.long (4294967297 : Int64)), .second, .val (.long (4294967297 : Int64)), .second, .val (.int (1 : Int32)), .val (.int (1 : Int32)), .val (.int (1 : Int32)), .val (.int (1 : Int32))]) rfl k) ?_
    show own_Go p e below _ T8 (mkF m 108 #[.val (.int p1), .val (.int (1 : Int32)), .val (.long (4294967297 : Int64)), .second, .val (.long (4294967297 : Int64)), .second, .val (.int (1 : Int32)), .val (.int (1 : Int32)), .val (.int (1 : Int32)), .val (.int (1 : Int32))] [])
    refine own_go (fun t k => XS.iload X8.here hx rfl (hb hby at_108) rfl k) ?_
    show own_Go p e below _ T8 (mkF m 110 #[.val (.int p1), .val (.int (1 : Int32)), .val (.long (4294967297 : Int64)), .second, .val (.long (4294967297 : Int64)), .second, .val (.int (1 : Int32)), .val (.int (1 : Int32)), .val (.int (1 : Int32)), .val (.int (1 : Int32))] [(.int (1 : Int32))])
    refine own_go (fun t k => XS.ifNo X8.here hx rfl (hb hby at_110) rfl (XT.i0_eq_f (by decide)) k) ?_
    show own_Go p e below _ T8 (mkF m 113 #[.val (.int p1), .val (.int (1 : Int32)), .val (.long (4294967297 : Int64)), .second, .val (.long (4294967297 : Int64)), .second, .val (.int (1 : Int32)), .val (.int (1 : Int32)), .val (.int (1 : Int32)), .val (.int (1 : Int32))] [])
    refine own_go (fun t k => XS.iload X8.here hx rfl (hb hby at_113) rfl k) ?_
    show own_Go p e below _ T8 (mkF m 115 #[.val (.int p1), .val (.int (1 : Int32)), .val (.long (4294967297 : Int64)), .second, .val (.long (4294967297 : Int64)), .second, .val (.int (1 : Int32)), .val (.int (1 : Int32)), .val (.int (1 : Int32)), .val (.int (1 : Int32))] [(.int (1 : Int32))])
    refine own_go (fun t k => XS.ifNo X8.here hx rfl (hb hby at_115) rfl (XT.i0_eq_f (by decide)) k) ?_
    show own_Go p e below _ T8 (mkF m 118 #[.val (.int p1), .val (.int (1 : Int32)), .val (.long (4294967297 : Int64)), .second, .val (.long (4294967297 : Int64)), .second, .val (.int (1 : Int32)), .val (.int (1 : Int32)), .val (.int (1 : Int32)), .val (.int (1 : Int32))] [])
    refine own_go (fun t k => XS.iload X8.here hx rfl (hb hby at_118) rfl k) ?_
    show own_Go p e below _ T8 (mkF m 120 #[.val (.int p1), .val (.int (1 : Int32)), .val (.long (4294967297 : Int64)), .second, .val (.long (4294967297 : Int64)), .second, .val (.int (1 : Int32)), .val (.int (1 : Int32)), .val (.int (1 : Int32)), .val (.int (1 : Int32))] [(.int (1 : Int32))])
    refine own_go (fun t k => XS.ifNo X8.here hx rfl (hb hby at_120) rfl (XT.i0_eq_f (by decide)) k) ?_
    show own_Go p e below _ T8 (mkF m 123 #[.val (.int p1), .val (.int (1 : Int32)), .val (.long (4294967297 : Int64)), .second, .val (.long (4294967297 : Int64)), .second, .val (.int (1 : Int32)), .val (.int (1 : Int32)), .val (.int (1 : Int32)), .val (.int (1 : Int32))] [])
    refine own_go (fun t k => XS.iload X8.here hx rfl (hb hby at_123) rfl k) ?_
    show own_Go p e below _ T8 (mkF m 125 #[.val (.int p1), .val (.int (1 : Int32)), .val (.long (4294967297 : Int64)), .second, .val (.long (4294967297 : Int64)), .second, .val (.int (1 : Int32)), .val (.int (1 : Int32)), .val (.int (1 : Int32)), .val (.int (1 : Int32))] [(.int (1 : Int32))])
    refine own_go (fun t k => XS.ifNo X8.here hx rfl (hb hby at_125) rfl (XT.i0_eq_f (by decide)) k) ?_
    show own_Go p e below _ T8 (mkF m 128 #[.val (.int p1), .val (.int (1 : Int32)), .val (.long (4294967297 : Int64)), .second, .val (.long (4294967297 : Int64)), .second, .val (.int (1 : Int32)), .val (.int (1 : Int32)), .val (.int (1 : Int32)), .val (.int (1 : Int32))] [])
    refine own_go (fun t k => XS.iconst X8.here hx rfl (hb hby at_128) k) ?_
    show own_Go p e below _ T8 (mkF m 129 #[.val (.int p1), .val (.int (1 : Int32)), .val (.long (4294967297 : Int64)), .second, .val (.long (4294967297 : Int64)), .second, .val (.int (1 : Int32)), .val (.int (1 : Int32)), .val (.int (1 : Int32)), .val (.int (1 : Int32))] [(.int (1 : Int32))])
    refine own_go (fun t k => XS.goto X8.here hx rfl (pc0 := 129) (pc' := 133) rfl (hb hby at_129) (by decide) (by decide) k) ?_
    show own_Go p e below _ T8 (mkF m 133 #[.val (.int p1), .val (.int (1 : Int32)), .val (.long (4294967297 : Int64)), .second, .val (.long (4294967297 : Int64)), .second, .val (.int (1 : Int32)), .val (.int (1 : Int32)), .val (.int (1 : Int32)), .val (.int (1 : Int32))] [(.int (1 : Int32))])
    refine own_retZ X8 hx hlk hret (hb hby at_133) (Or.inr rfl) (by decide) (by decide) ?_
    exact ⟨rfl, M8⟩
set_option maxRecDepth 65536 in
set_option maxHeartbeats 40000000 in
theorem comes_1 {Post : Tables → Env → Array Value → State → Outcome → State → Prop} (hpost : ∀ tb e args s v u, (limb_1_1.after args s (.returned v) u = true ∧ limb_1_2.after args s (.returned v) u = true ∧ True) → FrameEnd s (.returned v) u (Jvm.fieldLocs frame_1_writes args s ++ Jvm.arrayLocs frame_1_arrays args s ++ Jvm.staticLocs frame_1_statics s) 0 0 → Post tb e args s (.returned v) u) :
    ArmFor flags0 classFile x code maxLocals ret World_1 tables_1 room_1 Calls_1 rest_1 Pre_1 Post := by
  intro l hfl _ _ p e ha hc hk s m args below hf hA hF happ hP
  obtain ⟨hcalls, hrest, hpre⟩ := hP
  obtain ⟨-, -, -, hnamed, -, -, -, hat⟩ := (Spec.applies_iff hf).mp happ
  obtain ⟨hg, hn⟩ := and_e (Cond.before_iff.mp (show (Jvm.Cond.and given_1 narrow_1).before args s = true from hpre))
  obtain ⟨g1, g2⟩ := and_e hg
  obtain ⟨w0, rfl⟩ : ∃ w0 : Value, args = #[w0] := by
    have hs : args.size = 1 := by simpa [Cond.value, given_1] using g1
    obtain ⟨L⟩ := args
    match L, hs with
    | [w0], _ => exact ⟨w0, rfl⟩
  have hw := fun d (hd : d ∈ tables_1) => atoms_spec (ws := Jvm.Cond.code x code maxLocals ret :: tables_1) hat d (List.mem_cons_of_mem _ hd)
  have hfit : Fit s := fun {y c} hc i hi => by
    obtain ⟨ha, rfl⟩ := Array.getElem?_eq_some_iff.mp hc
    have q := List.all_eq_true.mp ((Array.all_eq_true_iff_forall_mem.mp hF) _ (Array.getElem_mem ha)) i (List.mem_range.mpr hi)
    simpa [Array.getElem?_eq_getElem hi] using q
  obtain ⟨i0, ei0⟩ := is_v g2
  obtain rfl : w0 = (.int i0) := Option.some.inj ei0
  obtain ⟨nF, nT⟩ := and_e hn
  have SF : Sta s s.heap "com/example/forking_paths/forkingpaths/io/SmvValue" "FALSE" "J" (.long (4294967296 : Int64)) := by
    obtain ⟨v1, v2, q1, q2, q3, -⟩ := cmp_v (Or.inl nF)
    have q4 : v2 = .long (4294967296 : Int64) := Option.some.inj q2.symm
    subst q4
    have q5 : v1 = .long (4294967296 : Int64) := by
      have q6 := nF
      simp only [Cond.value, q1, q2] at q6
      cases v1 <;> simp_all [Kin]
    exact Sta.start (q5 ▸ q1) (Or.inr ⟨(own_w hw 2 rfl), (own_w hw 5 rfl)⟩)
  have ST : Sta s s.heap "com/example/forking_paths/forkingpaths/io/SmvValue" "TRUE" "J" (.long (4294967297 : Int64)) := by
    obtain ⟨v1, v2, q1, q2, q3, -⟩ := cmp_v (Or.inl nT)
    have q4 : v2 = .long (4294967297 : Int64) := Option.some.inj q2.symm
    subst q4
    have q5 : v1 = .long (4294967297 : Int64) := by
      have q6 := nT
      simp only [Cond.value, q1, q2] at q6
      cases v1 <;> simp_all [Kin]
    exact Sta.start (q5 ▸ q1) (Or.inr ⟨(own_w hw 2 rfl), (own_w hw 14 rfl)⟩)
  obtain ⟨n, o, h1, h2, h3, _, L, rfl, ⟨rfl, N⟩, hq⟩ := rm0 l s _ hw tables_1 i0 s.heap s.heap.size (Nat.le_refl _) SF ST p e ha hc hk s m _ below hf ((Spec.applies_iff_loose hf).mp happ).1 ⟨rfl, State.Warmed39.refl s, rfl⟩ trivial
  refine ⟨n, _, h1, h2, h3, hpost _ _ _ _ _ _ ⟨Cond.after_iff.mpr rfl, Cond.after_iff.mpr (eq_i res_at (Term.int_eval (1)) rfl), trivial⟩ ⟨hq.1, hq.2.1, (hq.2.2.sift fun y hy => Or.inr (N y hy)).mono (by decide) (by decide)⟩⟩
theorem main_1_1 : Claimed_1_1 := comes_1 fun _ _ _ _ _ _ h hF => ⟨h.1, hF⟩
theorem main_1_2 : Claimed_1_2 := comes_1 fun _ _ _ _ _ _ h hF => ⟨h.2.1, hF⟩
end Jvm.Pilot.@@N@@
namespace Jvm.Pilot.@@N@@
open Jvm Jvm.ClassFile Sem Op Lib Jvm.Free Jvm.Stand Jvm.Pilot.@@N@@.Jvm.D
/-! MADE BY PROGRAM (witnessworld.py) out of the Statement's table words and the real class files: 9 classes; the members and pool entries that the words name. The judged class is class 1, her method 1. -/
namespace start1
open Jvm.ClassFile
def u (s : String) : CpInfo := .utf8 (stringToUtf16 s)
/-- a pool by its gaps: so many unusable entries, then the entry; so many at the end -/
def gap : Nat → List CpInfo → List CpInfo
  | 0, r => r
  | n + 1, r => .unusable :: gap n r
def poolList (es : List (Nat × CpInfo)) (last : Nat) : List CpInfo := es.foldr (fun e r => gap e.1 (e.2 :: r)) (gap last [])
def pool (es : List (Nat × CpInfo)) (last : Nat) : Array CpInfo := ⟨poolList es last⟩
def fileOf (pool : Array CpInfo) (this : Nat) (attrs : Array Attribute := #[]) (ms : Array MethodInfo := #[]) (fl : Nat := 33) (sup : Nat := 0) (ifs : Array Nat := #[]) (fds : Array FieldInfo := #[]) : ClassFile where
  minorVersion := 0
  majorVersion := 65
  constantPool := pool
  accessFlags := fl
  thisClass := this
  superClass := sup
  interfaces := ifs
  fields := fds
  methods := ms
  attributes := attrs
def plain (name : String) (sup : Option ClassId) : Class where
  name := name
  kind := .ordinary
  loader := none
  accessFlags := 33
  super := sup
  interfaces := #[]
  cf := none
  fields := #[]
  methods := #[]
  instanceTypes := #[]
  staticTypes := #[]
  resolved := #[]
  callSites := []
  init := .initialized
  statics := none
  mirror := none

def pool0 : Array CpInfo := pool [(5, u "<init>"), (0, u "()V"), (1, .class_ 10), (1, u "java/lang/Object")] 113

def k0m0 : Method := { name := "<init>", desc := "()V", sig := { parameters := [], returnType := none }, accessFlags := 1, code := none }
/-- java/lang/Object -/
def k0 : Class := { plain "java/lang/Object" none with
  accessFlags := 33
  interfaces := #[]
  cf := some (fileOf pool0 8 #[] #[{ accessFlags := 1, nameIndex := 5, descriptorIndex := 6, attributes := #[] }] 33 0 #[] #[])
  fields := #[]
  methods := #[k0m0]
  instanceTypes := #[]
  staticTypes := #[]
  resolved := Array.replicate 124 none
  statics := none }

def pool1 : Array CpInfo := pool [(2, .class_ 4), (1, u "java/lang/Object"), (0, u "<init>"), (0, u "()V"), (0, .methodref 8 9), (0, .class_ 10), (0, .nameAndType 11 12), (0, u "com/example/forking_paths/forkingpaths/io/SmvValue"), (0, u "bool"), (0, u "(Z)J"), (0, .long 4294967296), (1, .methodref 8 16), (0, .nameAndType 17 18), (0, u "kind"), (0, u "(J)I"), (0, .methodref 8 20), (0, .nameAndType 21 18), (0, u "payload"), (0, .class_ 23), (0, u "com/example/forking_paths/forkingpaths/io/SmvValueBoolPinLaw"), (2, u "law"), (0, u "(I)Z")] 3

def k1m0 : Method := { name := "<init>", desc := "()V", sig := { parameters := [], returnType := none }, accessFlags := 2, code := none }
def k1c1 : Code := { maxStack := 4, maxLocals := 10, code := code, exceptionTable := #[], attributes := #[] }
def k1m1 : Method := { name := "law", desc := "(I)Z", sig := { parameters := [.int], returnType := some .boolean }, accessFlags := 9, code := some k1c1 }
/-- com/example/forking_paths/forkingpaths/io/SmvValueBoolPinLaw -/
def k1 : Class := { plain "com/example/forking_paths/forkingpaths/io/SmvValueBoolPinLaw" (some 0) with
  accessFlags := 49
  interfaces := #[]
  cf := some (fileOf pool1 22 #[] #[{ accessFlags := 2, nameIndex := 5, descriptorIndex := 6, attributes := #[] }, { accessFlags := 9, nameIndex := 26, descriptorIndex := 27, attributes := #[] }] 49 2 #[] #[])
  fields := #[]
  methods := #[k1m0, k1m1]
  instanceTypes := #[]
  staticTypes := #[]
  resolved := Array.replicate 31 none
  statics := none }

def pool2 : Array CpInfo := pool [(2, .class_ 4), (1, u "java/lang/Object"), (0, u "<init>"), (0, u "()V"), (0, .fieldref 8 9), (0, .class_ 10), (0, .nameAndType 11 12), (0, u "com/example/forking_paths/forkingpaths/io/SmvValue"), (0, u "TRUE"), (0, u "J"), (0, .fieldref 8 14), (0, .nameAndType 15 12), (0, u "FALSE"), (6, u "kind"), (0, u "(J)I"), (4, u "payload"), (18, u "BOOLEAN"), (0, u "I"), (2, u "INTEGER"), (1, u "SYMBOL"), (1, u "SET"), (3, u "bool"), (0, u "(Z)J")] 12

def k2m0 : Method := { name := "<init>", desc := "()V", sig := { parameters := [], returnType := none }, accessFlags := 2, code := none }
def k2c1 : Code := { maxStack := 2, maxLocals := 1, code := prog_68_method_2_code, exceptionTable := #[], attributes := #[] }
def k2m1 : Method := { name := "bool", desc := "(Z)J", sig := { parameters := [.boolean], returnType := some .long }, accessFlags := 8, code := some k2c1 }
def k2c2 : Code := { maxStack := 3, maxLocals := 2, code := prog_68_method_6_code, exceptionTable := #[], attributes := #[] }
def k2m2 : Method := { name := "kind", desc := "(J)I", sig := { parameters := [.long], returnType := some .int }, accessFlags := 8, code := some k2c2 }
def k2c3 : Code := { maxStack := 2, maxLocals := 2, code := prog_68_method_7_code, exceptionTable := #[], attributes := #[] }
def k2m3 : Method := { name := "payload", desc := "(J)I", sig := { parameters := [.long], returnType := some .int }, accessFlags := 8, code := some k2c3 }
/-- com/example/forking_paths/forkingpaths/io/SmvValue -/
def k2 : Class := { plain "com/example/forking_paths/forkingpaths/io/SmvValue" (some 0) with
  accessFlags := 48
  interfaces := #[]
  cf := some (fileOf pool2 8 #[] #[{ accessFlags := 2, nameIndex := 5, descriptorIndex := 6, attributes := #[] }, { accessFlags := 8, nameIndex := 59, descriptorIndex := 60, attributes := #[] }, { accessFlags := 8, nameIndex := 22, descriptorIndex := 23, attributes := #[] }, { accessFlags := 8, nameIndex := 28, descriptorIndex := 23, attributes := #[] }] 48 2 #[] #[{ accessFlags := 24, nameIndex := 47, descriptorIndex := 48, attributes := #[] }, { accessFlags := 24, nameIndex := 51, descriptorIndex := 48, attributes := #[] }, { accessFlags := 24, nameIndex := 53, descriptorIndex := 48, attributes := #[] }, { accessFlags := 24, nameIndex := 55, descriptorIndex := 48, attributes := #[] }, { accessFlags := 24, nameIndex := 15, descriptorIndex := 12, attributes := #[] }, { accessFlags := 24, nameIndex := 11, descriptorIndex := 12, attributes := #[] }])
  fields := #[{ name := "BOOLEAN", type := .int, accessFlags := 24, slot := 0, constantValue := 0 }, { name := "INTEGER", type := .int, accessFlags := 24, slot := 1, constantValue := 0 }, { name := "SYMBOL", type := .int, accessFlags := 24, slot := 2, constantValue := 0 }, { name := "SET", type := .int, accessFlags := 24, slot := 3, constantValue := 0 }, { name := "FALSE", type := .long, accessFlags := 24, slot := 4, constantValue := 0 }, { name := "TRUE", type := .long, accessFlags := 24, slot := 5, constantValue := 0 }]
  methods := #[k2m0, k2m1, k2m2, k2m3]
  instanceTypes := #[]
  staticTypes := #[.int, .int, .int, .int, .long, .long]
  resolved := Array.replicate 73 none
  statics := some 0 }

def pool3 : Array CpInfo := pool [(1, u "java/lang/Cloneable"), (0, .class_ 1), (0, u "java/lang/Object"), (0, .class_ 3)] 3

/-- java/lang/Cloneable -/
def k3 : Class := { plain "java/lang/Cloneable" (some 0) with
  accessFlags := 1537
  interfaces := #[]
  cf := some (fileOf pool3 2 #[] #[] 1537 4 #[] #[])
  fields := #[]
  methods := #[]
  instanceTypes := #[]
  staticTypes := #[]
  resolved := Array.replicate 8 none
  statics := none }

def pool4 : Array CpInfo := pool [(1, u "java/io/Serializable"), (0, .class_ 1), (0, u "java/lang/Object"), (0, .class_ 3)] 3

/-- java/io/Serializable -/
def k4 : Class := { plain "java/io/Serializable" (some 0) with
  accessFlags := 1537
  interfaces := #[]
  cf := some (fileOf pool4 2 #[] #[] 1537 4 #[] #[])
  fields := #[]
  methods := #[]
  instanceTypes := #[]
  staticTypes := #[]
  resolved := Array.replicate 8 none
  statics := none }

/-- the primitive byte -/
def k5 : Class := { plain "byte" none with kind := .primitive 'B', accessFlags := 0x411 }
/-- [B -/
def k6 : Class := { plain "[B" (some 0) with kind := .array 5 .byte, interfaces := #[3, 4], accessFlags := 1041 }

/-- the primitive int -/
def k7 : Class := { plain "int" none with kind := .primitive 'I', accessFlags := 0x411 }
/-- [I -/
def k8 : Class := { plain "[I" (some 0) with kind := .array 7 .int, interfaces := #[3, 4], accessFlags := 1041 }

def heap : Heap := #[{ cls := 2, slots := #[.int 0, .int 0, .int 0, .int 0, .long 4294967296, .long 4294967297], vm := .statics 2 }]
def classes : Array Class := #[k0, k1, k2, k3, k4, k5, k6, k7, k8]
def interned : List (Array UInt16 × Addr) := []
def slotsUsed : Nat := 6
def theMethod : MethodId := ⟨1, 1⟩
def args0 : Array Value := #[.int 5]
def aboutOver (below : List Frame) : State where
  vm := { classes := classes, interned := interned.toArray }
  heap := heap
  slotsUsed := slotsUsed
  threads := #[{ frames := .invoking theMethod args0 :: below }]
def below0 : List Frame := [.native { method := ⟨0, 0⟩, args := #[] }]
def about1 : State := aboutOver below0
def p0 : Program := .bare "" "" ""
def e0 : Env := launch0.env 0 0 0
theorem w_frames : about1.frames = Frame.invoking theMethod args0 :: below0 := rfl
set_option maxRecDepth 65536 in
theorem w_args : argsFit about1.vm theMethod args0 = true := by decide +kernel
set_option maxRecDepth 65536 in
theorem w_heap : heapFits about1 = true := by decide +kernel
set_option maxRecDepth 65536 in
theorem w_runnable : about1.curStatus? = some .runnable := by decide +kernel
set_option maxRecDepth 65536 in
theorem w_alone : about1.alone = true := by decide +kernel
set_option maxRecDepth 65536 in
theorem w_named : about1.methodNamed? x = some theMethod := by decide +kernel
set_option maxRecDepth 65536 in
theorem w_hears : about1.hears theMethod below0 = true := by decide +kernel
set_option maxRecDepth 65536 in
theorem w_ripe : about1.ripe theMethod args0 below0 = true := by decide +kernel
theorem w_running : about1.status = .running := rfl
set_option maxRecDepth 65536 in
theorem w_room : about1.hasRoom e0.platform room_1 = true :=
  launch0.hasRoom_least _ room_1 (by decide +kernel) (by decide +kernel) (by decide +kernel) (by decide +kernel) (by decide +kernel) (by decide +kernel)
theorem allAtoms_all (ts : List Jvm.Cond) (a : Array Jvm.Value) (st : Jvm.State) : (allAtoms ts).before a st = ts.all (fun c => c.before a st) := by
  induction ts with
  | nil => rfl
  | cons c t ih =>
    show (Jvm.Cond.and c (allAtoms t)).before a st = _
    rw [Jvm.Cond.before_and, ih, List.all_cons]
def words1 : List Jvm.Cond := Jvm.Cond.code x code maxLocals ret :: tables_1
/-- a 'code' word, met by the world's own term for the bytes: nothing is compared byte by byte -/
theorem code_word {y : MethodName} {bytes : ByteArray} {mx : Nat} {rt : Option FieldType} {a : Array Value} {s : State} {m : MethodId} {meth : Method} {c : Code} (h1 : s.methodNamed? y = some m) (h2 : s.vm.method? m = some meth) (h3 : meth.code = some c) (h4 : c.code = bytes)
    (h5 : (c.maxLocals == mx && c.exceptionTable.isEmpty && decide (c.maxStack ≤ mostOperands) && decide (meth.sig.returnType = rt) && !meth.locks && decide (parseMethodDescriptor y.desc = some meth.sig)) = true) : (Jvm.Cond.code y bytes mx rt).before a s = true := by
  simp only [Bool.and_eq_true, beq_iff_eq, Bool.not_eq_true', decide_eq_true_eq] at h5
  obtain ⟨⟨⟨⟨⟨g1, g2⟩, g3⟩, g4⟩, g5⟩, g6⟩ := h5
  simp [Cond.before, Cond.holds, Cond.value, h1, h2, h3, h4, g1, g2, g3, g4, g5, g6]
def isCode : Jvm.Cond → Bool
  | .code _ _ _ _ => true
  | _ => false
theorem all_split {L : List Jvm.Cond} {P : Jvm.Cond → Bool} (h1 : L.all (fun c => isCode c || P c) = true) (h2 : ∀ c ∈ L.filter isCode, P c = true) : L.all P = true := by
  refine List.all_eq_true.mpr fun c hc => ?_
  have h := List.all_eq_true.mp h1 c hc
  rcases Bool.eq_false_or_eq_true (isCode c) with hi | hi
  · exact h2 c (List.mem_filter.mpr ⟨hc, hi⟩)
  · simpa [hi] using h
set_option maxRecDepth 65536 in
theorem w_c0 : (Jvm.Cond.code x code maxLocals ret).before args0 about1 = true := code_word (m := ⟨1, 1⟩) (meth := k1m1) (c := k1c1) (by decide +kernel) rfl rfl rfl (by decide +kernel)
set_option maxRecDepth 65536 in
theorem w_c1 : (Jvm.Cond.code ({ cls := "com/example/forking_paths/forkingpaths/io/SmvValue", name := "bool", desc := "(Z)J" } : Jvm.MethodName) prog_68_method_2_code (1 : Nat) (Option.some Jvm.ClassFile.FieldType.long)).before args0 about1 = true := code_word (m := ⟨2, 1⟩) (meth := k2m1) (c := k2c1) (by decide +kernel) rfl rfl rfl (by decide +kernel)
set_option maxRecDepth 65536 in
theorem w_c2 : (Jvm.Cond.code ({ cls := "com/example/forking_paths/forkingpaths/io/SmvValue", name := "kind", desc := "(J)I" } : Jvm.MethodName) prog_68_method_6_code (2 : Nat) (Option.some Jvm.ClassFile.FieldType.int)).before args0 about1 = true := code_word (m := ⟨2, 2⟩) (meth := k2m2) (c := k2c2) (by decide +kernel) rfl rfl rfl (by decide +kernel)
set_option maxRecDepth 65536 in
theorem w_c3 : (Jvm.Cond.code ({ cls := "com/example/forking_paths/forkingpaths/io/SmvValue", name := "payload", desc := "(J)I" } : Jvm.MethodName) prog_68_method_7_code (2 : Nat) (Option.some Jvm.ClassFile.FieldType.int)).before args0 about1 = true := code_word (m := ⟨2, 3⟩) (meth := k2m3) (c := k2c3) (by decide +kernel) rfl rfl rfl (by decide +kernel)
def codes1 : List Jvm.Cond := [Jvm.Cond.code x code maxLocals ret, Jvm.Cond.code ({ cls := "com/example/forking_paths/forkingpaths/io/SmvValue", name := "bool", desc := "(Z)J" } : Jvm.MethodName) prog_68_method_2_code (1 : Nat) (Option.some Jvm.ClassFile.FieldType.long), Jvm.Cond.code ({ cls := "com/example/forking_paths/forkingpaths/io/SmvValue", name := "kind", desc := "(J)I" } : Jvm.MethodName) prog_68_method_6_code (2 : Nat) (Option.some Jvm.ClassFile.FieldType.int), Jvm.Cond.code ({ cls := "com/example/forking_paths/forkingpaths/io/SmvValue", name := "payload", desc := "(J)I" } : Jvm.MethodName) prog_68_method_7_code (2 : Nat) (Option.some Jvm.ClassFile.FieldType.int)]
set_option maxRecDepth 65536 in
theorem codes_eq : words1.filter isCode = codes1 := rfl
theorem w_codes : ∀ c ∈ words1.filter isCode, c.before args0 about1 = true := by
  rw [codes_eq]
  intro c hc
  simp only [codes1, List.mem_cons, List.not_mem_nil, or_false] at hc
  rcases hc with rfl | rfl | rfl | rfl
  · exact w_c0
  · exact w_c1
  · exact w_c2
  · exact w_c3
set_option maxRecDepth 65536 in
theorem w_t1 : words1.all (fun c => isCode c || c.before args0 about1) = true := by decide +kernel
theorem w_tables : (allAtoms (Jvm.Cond.code x code maxLocals ret :: tables_1)).before args0 about1 = true := by
  rw [allAtoms_all]
  show words1.all (fun c => c.before args0 about1) = true
  refine all_split ?_ w_codes
  rw [w_t1]
set_option maxRecDepth 65536 in
theorem w_case : (Jvm.Cond.and given_1 narrow_1).before args0 about1 = true := by decide +kernel
theorem w_applies : (headSpec (Jvm.Cond.code x code maxLocals ret :: tables_1) room_1).applies x e0.platform about1 = true :=
  (Spec.applies_iff w_frames).mpr ⟨w_running, w_runnable, w_alone, w_named, w_hears, w_ripe, w_room, w_tables⟩
theorem atStart : AtStart classFile x code maxLocals ret World_1 tables_1 room_1 Calls_1 rest_1 Pre_1 launch0 p0 e0 about1 theMethod args0 below0 :=
  ⟨lists_1, trivial, launch0.admits_env _ _ _, launch0.least_env, fairChoices_fair.cas, fairChoices_fair.clock, w_frames, w_args, w_heap, w_applies, trivial, trivial, w_case⟩
end start1
theorem witness_1 : WitnessClaimed_1 := ⟨start1.p0, start1.e0, start1.about1, start1.theMethod, start1.args0, start1.below0, start1.atStart⟩
end Jvm.Pilot.@@N@@
