import JvmDerived
import JvmDerived.Pilot.@@N@@Statement
import JvmDerived.Pilot.@@N@@Code
set_option linter.unusedVariables false
set_option linter.unusedSimpArgs false
namespace Jvm.Pilot.@@N@@
open Jvm Jvm.ClassFile Sem Op Lib Jvm.Free Jvm.Stand Jvm.LawKit Jvm.RoadKit Bundle Jvm.Pilot.@@N@@.Jvm.D
section Own
variable {p : Program} {l : Launch} {e : Env} {R : Room} {s : State} {m : MethodId} {args : Array Value} {below : List Frame} {meth : Method} {c : Code} {T : State} {locs : List Loc} {cells slots : Nat} {Z : State} {a0 : Array Value} {K : State → Outcome → Prop} {pc pc' : Nat} {Ls : Array Slot} {st : List Value} {h : Heap}
/-- from here the run ends, and what is left is as K says -/
def own_Go (p : Program) (e : Env) (below : List Frame) (K : State → Outcome → Prop) (T : State) (f : JFrame) : Prop :=
  ∃ s₂ o, Steps p.tables e below (T.setTop f) s₂ ∧ s₂.status = .running ∧ Ended s₂ below o ∧ K s₂ o
def own_K (Q : Option Value → Heap → List Loc → Prop) (s : State) (cs ss : Nat) : State → Outcome → Prop := fun u o => ∃ v L, o = .returned v ∧ Q v u.heap L ∧ FrameEnd s o u L cs ss
theorem own_go {T' : State} {f f' : JFrame} (h : ∀ t, Steps p.tables e below (T'.setTop f') t → Steps p.tables e below (T.setTop f) t) (k : own_Go p e below K T' f') : own_Go p e below K T f := by
  obtain ⟨a, b, c, d⟩ := k
  exact ⟨a, b, h _ c, d⟩
theorem own_w {tb : List Jvm.Cond} (hw : ∀ d ∈ tb, d.before a0 Z = true) {d : Jvm.Cond} (k : Nat) (h : tb[k]? = some d) : d.before a0 Z = true := hw _ (List.mem_of_getElem? h)
/-- a method's contract: called with these arguments over this heap it returns, and Q says what it leaves -/
abbrev own_Met (l : Launch) (Z : State) (y : MethodName) (bytes : ByteArray) (mx : Nat) (rt : Option FieldType) (ws : List Jvm.Cond) (rm : Room) (as : Array Value) (h0 : Heap) (Q : Option Value → Heap → List Loc → Prop) : Prop :=
  MetFree l y (head1 (Jvm.Cond.code y bytes mx rt :: ws) rm) (fun a U => a = as ∧ Z.Warmed39 U.vm ∧ U.heap = h0) (fun _ _ _ _ _ => True) (fun _ U o U' => ∃ v L, o = .returned v ∧ Q v U'.heap L ∧ FrameEnd U o U' L rm.cells rm.slots)
theorem own_body {y : MethodName} {bytes : ByteArray} {mx : Nat} {rt : Option FieldType} {ws : List Jvm.Cond} {rm : Room} {as : Array Value} {h0 : Heap} {Q : Option Value → Heap → List Loc → Prop} (hp : plainFor y = true)
    (body : ∀ (p : Program) (e : Env) (s : State) (m : MethodId) (below : List Frame) (meth : Method) (c : Code) (T : State), Stand p l e rm s m as below meth c T [] 0 0 → p.tables.exec = Jvm.exec → c.code = bytes → c.maxLocals = mx → meth.sig.returnType = rt → meth.locks = false → Z.Warmed39 s.vm → s.vm.findClass y.cls = some m.cls → meth.name = y.name → T.heap = h0 →
      own_Go p e below (own_K Q s rm.cells rm.slots) T (entryFrame m as mx)) : own_Met l Z y bytes mx rt ws rm as h0 Q := by
  refine MetFree.of_bodySF hp hisR ?_
  intro p e s m args below meth c s₁ Bd hml0 hP hK
  obtain ⟨rfl, hZ, hh⟩ := hP
  exact body p e s m below meth c s₁ (Stand.of_body Bd) Bd.exec Bd.bytes hml0 Bd.returns Bd.notSynchronized hZ (findClass_of_methodNamed Bd.named) (name_of_methodNamed Bd.named Bd.method).1 (by rw [← hh, Bd.state]; rfl)
theorem own_ret (X : Stand p l e R s m args below meth c T locs cells slots) (hx : p.tables.exec = Jvm.exec) {Q : Option Value → Heap → List Loc → Prop} {cs ss : Nat} {w : Value} {t : FieldType} {i : Instr} {rest : List Value} (hlk : meth.locks = false) (hret : meth.sig.returnType = some t) (hd : decode c.code pc = .ok (i, 1)) (hn : narrow t w = w)
    (hi : (i = .ireturn ∧ (t = .int ∨ t = .boolean ∨ t = .byte ∨ t = .char ∨ t = .short) ∧ ∃ z, w = .int z) ∨ (i = .lreturn ∧ t = .long ∧ ∃ z, w = .long z) ∨ (i = .dreturn ∧ t = .double ∧ ∃ z, w = .double z) ∨ (i = .freturn ∧ t = .float ∧ ∃ z, w = .float z) ∨ (i = .areturn ∧ t.isReference = true ∧ w.isRef = true))
    (hc : cells ≤ cs) (hs : slots ≤ ss) (hq : Q (some w) T.heap locs) : own_Go p e below (own_K Q s cs ss) T (mkF m pc Ls (w :: rest)) := by
  obtain ⟨fs, hr, hrun, hended, hW, hsame⟩ := X.leave (v := some w) (fun h => by rw [hret] at h; cases h) hlk
  exact ⟨_, _, retOut X hx hret hn hi hd hr, hrun, hended, _, _, rfl, hq, ⟨_, rfl⟩, hW, hsame.mono hc hs⟩
theorem own_retI (X : Stand p l e R s m args below meth c T locs cells slots) (hx : p.tables.exec = Jvm.exec) {Q : Option Value → Heap → List Loc → Prop} {cs ss : Nat} {z : Int32} {rest : List Value} (hlk : meth.locks = false) (hret : meth.sig.returnType = some .int) (hd : decode c.code pc = .ok (.ireturn, 1)) (hc : cells ≤ cs) (hs : slots ≤ ss) (hq : Q (some (.int z)) T.heap locs) : own_Go p e below (own_K Q s cs ss) T (mkF m pc Ls (.int z :: rest)) :=
  own_ret X hx hlk hret hd rfl (Or.inl ⟨rfl, Or.inl rfl, z, rfl⟩) hc hs hq
theorem own_retZ (X : Stand p l e R s m args below meth c T locs cells slots) (hx : p.tables.exec = Jvm.exec) {Q : Option Value → Heap → List Loc → Prop} {cs ss : Nat} {z : Int32} {rest : List Value} (hlk : meth.locks = false) (hret : meth.sig.returnType = some .boolean) (hd : decode c.code pc = .ok (.ireturn, 1)) (hn : z = 0 ∨ z = 1) (hc : cells ≤ cs) (hs : slots ≤ ss) (hq : Q (some (.int z)) T.heap locs) : own_Go p e below (own_K Q s cs ss) T (mkF m pc Ls (.int z :: rest)) :=
  own_ret X hx hlk hret hd (by rcases hn with rfl | rfl <;> rfl) (Or.inl ⟨rfl, Or.inr (Or.inl rfl), z, rfl⟩) hc hs hq
theorem own_retJ (X : Stand p l e R s m args below meth c T locs cells slots) (hx : p.tables.exec = Jvm.exec) {Q : Option Value → Heap → List Loc → Prop} {cs ss : Nat} {z : Int64} {rest : List Value} (hlk : meth.locks = false) (hret : meth.sig.returnType = some .long) (hd : decode c.code pc = .ok (.lreturn, 1)) (hc : cells ≤ cs) (hs : slots ≤ ss) (hq : Q (some (.long z)) T.heap locs) : own_Go p e below (own_K Q s cs ss) T (mkF m pc Ls (.long z :: rest)) :=
  own_ret X hx hlk hret hd rfl (Or.inr (Or.inl ⟨rfl, rfl, z, rfl⟩)) hc hs hq
theorem own_retA (X : Stand p l e R s m args below meth c T locs cells slots) (hx : p.tables.exec = Jvm.exec) {Q : Option Value → Heap → List Loc → Prop} {cs ss : Nat} {w : Value} {t : FieldType} {rest : List Value} (hlk : meth.locks = false) (hret : meth.sig.returnType = some t) (hd : decode c.code pc = .ok (.areturn, 1)) (ht : t.isReference = true) (hv : w.isRef = true) (hc : cells ≤ cs) (hs : slots ≤ ss) (hq : Q (some w) T.heap locs) : own_Go p e below (own_K Q s cs ss) T (mkF m pc Ls (w :: rest)) :=
  own_ret X hx hlk hret hd (by rcases ref_cases hv with rfl | ⟨a, rfl⟩ <;> cases t <;> first | rfl | cases ht) (Or.inr (Or.inr (Or.inr (Or.inr ⟨rfl, ht, hv⟩)))) hc hs hq
theorem own_retV (X : Stand p l e R s m args below meth c T locs cells slots) (hx : p.tables.exec = Jvm.exec) {Q : Option Value → Heap → List Loc → Prop} {cs ss : Nat} (hlk : meth.locks = false) (hret : meth.sig.returnType = none) (hd : decode c.code pc = .ok (.return_, 1)) (hc : cells ≤ cs) (hs : slots ≤ ss) (hq : Q none T.heap locs) : own_Go p e below (own_K Q s cs ss) T (mkF m pc Ls []) := by
  obtain ⟨fs, hr, hrun, hended, hW, hsame⟩ := X.leave (v := none) (fun _ => rfl) hlk
  exact ⟨_, _, X.returnOut hx hret hd hr, hrun, hended, _, _, rfl, hq, ⟨_, rfl⟩, hW, hsame.mono hc hs⟩
/-- the two roads of a conditional branch -/
theorem own_if (X : Stand p l e R s m args below meth c T locs cells slots) (hx : p.tables.exec = Jvm.exec) {cd : ClassFile.Cond} {o : Int} {z : Int32} {rest : List Value} (hd : decode c.code pc = .ok (.ifCond cd o, 3)) (ho : 0 ≤ (pc : Int) + o) (hp : ((pc : Int) + o).toNat = pc') {pc1 : Nat} (hp1 : pc + 3 = pc1) (P : Prop) (h1 : P → ifCond.holds cd z = true) (h2 : ¬ P → ifCond.holds cd z = false)
    (kt : P → own_Go p e below K T (mkF m pc' Ls rest)) (kf : ¬ P → own_Go p e below K T (mkF m pc1 Ls rest)) : own_Go p e below K T (mkF m pc Ls (.int z :: rest)) := by
  subst hp1
  by_cases q : P
  · exact own_go (fun t k => XS.ifYes X.here hx (g := mkF m pc Ls (.int z :: rest)) rfl (pc0 := pc) (pc' := pc') rfl hd rfl (h1 q) ho hp k) (kt q)
  · exact own_go (fun t k => XS.ifNo X.here hx (g := mkF m pc Ls (.int z :: rest)) rfl hd rfl (h2 q) k) (kf q)
theorem own_icmp (X : Stand p l e R s m args below meth c T locs cells slots) (hx : p.tables.exec = Jvm.exec) {cd : ClassFile.Cond} {o : Int} {y z : Int32} {rest : List Value} (hd : decode c.code pc = .ok (.if_icmp cd o, 3)) (ho : 0 ≤ (pc : Int) + o) (hp : ((pc : Int) + o).toNat = pc') {pc1 : Nat} (hp1 : pc + 3 = pc1) (P : Prop) (h1 : P → if_icmp.holds cd y z = true) (h2 : ¬ P → if_icmp.holds cd y z = false)
    (kt : P → own_Go p e below K T (mkF m pc' Ls rest)) (kf : ¬ P → own_Go p e below K T (mkF m pc1 Ls rest)) : own_Go p e below K T (mkF m pc Ls (.int z :: .int y :: rest)) := by
  subst hp1
  by_cases q : P
  · exact own_go (fun t k => XS.icmpYes X.here hx (g := mkF m pc Ls (.int z :: .int y :: rest)) rfl (pc0 := pc) (pc' := pc') rfl hd rfl (h1 q) ho hp k) (kt q)
  · exact own_go (fun t k => XS.icmpNo X.here hx (g := mkF m pc Ls (.int z :: .int y :: rest)) rfl hd rfl (h2 q) k) (kf q)
theorem own_callS (X : Stand p l e R s m args below meth c T locs cells slots) (hx : p.tables.exec = Jvm.exec) (hZ : Z.Warmed39 s.vm) {own : String} {index : Nat} {y : MethodName} {bytes : ByteArray} {mx : Nat} {rt : Option FieldType} {rm : Room} {argsL rest : List Value} {Q : Option Value → Heap → List Loc → Prop}
    (hown : s.vm.findClass own = some m.cls) (w1 : (Jvm.Cond.methodLink own index y).before a0 Z = true) (w2 : (Jvm.Cond.static y).before a0 Z = true) (w3 : (Jvm.Cond.initialized y.cls).before a0 Z = true) (w4 : (Jvm.Cond.code y bytes mx rt).before a0 Z = true) (hy : y.cls ≠ "java/lang/invoke/MethodHandle" ∧ y.cls ≠ "java/lang/invoke/VarHandle")
    (eT : T.heap = h) (hM : own_Met l Z y bytes mx rt [] rm argsL.toArray h Q) (W : Nat) (hf : rm.frames + 1 ≤ R.frames) (hl : W + (mx + 11) + rm.locals ≤ R.locals) (hcl : cells + rm.cells ≤ R.cells) (hsl : slots + rm.slots ≤ R.slots) (hsz : Ls.size = c.maxLocals) (hlen : ∀ sig, parseMethodDescriptor y.desc = some sig → argsL.length = sig.parameters.length)
    (hst : st = argsL.reverse ++ rest) (hW : (rest.map fun v => v.category).sum ≤ W) (hd : decode c.code pc = .ok (.invokestatic index, 3)) :
    ∃ v T' L, Stand p l e R s m args below meth c T' (locs ++ L) (cells + rm.cells) (slots + rm.slots) ∧ Q v T'.heap L ∧ ∀ t, Steps p.tables e below (T'.setTop (mkF m (pc + 3) Ls (v.toList ++ rest))) t → Steps p.tables e below (T.setTop (mkF m pc Ls st)) t := by
  obtain ⟨v, vm1, ⟨T', L', k', n'⟩, -, X', ⟨L, hQ, l1, l2, l3⟩, stp⟩ := Jvm.LawKit.callS X hx (y := y) hown (mvT hZ w1) (mvT hZ w2) (mvT hZ w3) (mvT hZ w4) hy (backOf (W := W) hM hZ w4 w3 hf hl) (g := mkF m pc Ls st) rfl hsz (argsL := argsL) (rest := rest) hlen hst (by show 2 * 0 + _ ≤ _; omega) hd (fun _ _ => ⟨rfl, eT, hcl, hsl⟩)
  dsimp only [Pt.U, Pt.locs, Pt.cells, Pt.slots] at X' l1 l2 l3 stp hQ
  subst l1 l2 l3
  exact ⟨v, T', L, X', hQ, stp⟩
theorem own_callV (X : Stand p l e R s m args below meth c T locs cells slots) (hx : p.tables.exec = Jvm.exec) (hZ : Z.Warmed39 s.vm) {own C : String} {index : Nat} {y z : MethodName} {bytes : ByteArray} {mx : Nat} {rt : Option FieldType} {rm : Room} {b : Addr} {argsL rest : List Value} {Q : Option Value → Heap → List Loc → Prop}
    (hown : s.vm.findClass own = some m.cls) (w1 : (Jvm.Cond.methodLink own index y).before a0 Z = true) (w2 : (Jvm.Cond.declares y).before a0 Z = true) (w3 : (Jvm.Cond.selects C y z).before a0 Z = true) (hnf : NotFace s y) (w4 : (Jvm.Cond.instanceMethod z).before a0 Z = true) (w5 : (Jvm.Cond.code z bytes mx rt).before a0 Z = true) (w6 : (Jvm.Cond.initialized z.cls).before a0 Z = true) (hy : y.cls ≠ "java/lang/invoke/MethodHandle" ∧ y.cls ≠ "java/lang/invoke/VarHandle")
    (eT : T.heap = h) (E : Exa Z h b C) (hM : own_Met l Z z bytes mx rt [] rm (.ref b :: argsL).toArray h Q) (W : Nat) (hf : rm.frames + 1 ≤ R.frames) (hl : W + (mx + 11) + rm.locals ≤ R.locals) (hcl : cells + rm.cells ≤ R.cells) (hsl : slots + rm.slots ≤ R.slots) (hsz : Ls.size = c.maxLocals) (hlen : ∀ sig, parseMethodDescriptor y.desc = some sig → argsL.length = sig.parameters.length)
    (hst : st = argsL.reverse ++ .ref b :: rest) (hW : (rest.map fun v => v.category).sum ≤ W) (hd : decode c.code pc = .ok (.invokevirtual index, 3)) :
    ∃ v T' L, Stand p l e R s m args below meth c T' (locs ++ L) (cells + rm.cells) (slots + rm.slots) ∧ Q v T'.heap L ∧ ∀ t, Steps p.tables e below (T'.setTop (mkF m (pc + 3) Ls (v.toList ++ rest))) t → Steps p.tables e below (T.setTop (mkF m pc Ls st)) t := by
  obtain ⟨cq, kq, q1, q2, q3⟩ := isOf hZ eT E
  obtain ⟨v, vm1, ⟨T', L', k', n'⟩, -, X', ⟨L, hQ, l1, l2, l3⟩, stp⟩ := X.virtualBack hx (y := y) (z := z) hown (mvT hZ w1) (mvT hZ w2) hnf (mvT hZ w3) (mvT hZ w4) hy (backOf (W := W) hM hZ w5 w6 hf hl) q1 q3 (g := mkF m pc Ls st) rfl hsz (Steps.refl _) (argsL := argsL) (rest := rest) hlen hst (by show 2 * 0 + _ ≤ _; omega) hd (fun _ _ => ⟨rfl, eT, hcl, hsl⟩)
  dsimp only [Pt.U, Pt.locs, Pt.cells, Pt.slots] at X' l1 l2 l3 stp hQ
  subst l1 l2 l3
  exact ⟨v, T', L, X', hQ, fun t k => stp.trans k⟩
theorem own_callU (X : Stand p l e R s m args below meth c T locs cells slots) (hx : p.tables.exec = Jvm.exec) (hZ : Z.Warmed39 s.vm) {own C owner : String} {index : Nat} {y z : MethodName} {bytes : ByteArray} {mx : Nat} {rt : Option FieldType} {rm : Room} {b : Addr} {argsL rest : List Value} {Q : Option Value → Heap → List Loc → Prop}
    (hown : s.vm.findClass own = some m.cls) (w1 : (Jvm.Cond.methodLink own index y).before a0 Z = true) (w2 : (Jvm.Cond.sameMethod y.cls owner y.name y.desc).before a0 Z = true) (w2' : (Jvm.Cond.declares ⟨owner, y.name, y.desc⟩).before a0 Z = true) (w3 : (Jvm.Cond.selects C y z).before a0 Z = true) (w4 : (Jvm.Cond.instanceMethod z).before a0 Z = true) (w5 : (Jvm.Cond.code z bytes mx rt).before a0 Z = true) (w6 : (Jvm.Cond.initialized z.cls).before a0 Z = true) (hy : owner ≠ "java/lang/invoke/MethodHandle" ∧ owner ≠ "java/lang/invoke/VarHandle")
    (eT : T.heap = h) (E : Exa Z h b C) (hM : own_Met l Z z bytes mx rt [] rm (.ref b :: argsL).toArray h Q) (W : Nat) (hf : rm.frames + 1 ≤ R.frames) (hl : W + (mx + 11) + rm.locals ≤ R.locals) (hcl : cells + rm.cells ≤ R.cells) (hsl : slots + rm.slots ≤ R.slots) (hsz : Ls.size = c.maxLocals) (hlen : ∀ sig, parseMethodDescriptor y.desc = some sig → argsL.length = sig.parameters.length)
    (hst : st = argsL.reverse ++ .ref b :: rest) (hW : (rest.map fun v => v.category).sum ≤ W) (hd : decode c.code pc = .ok (.invokevirtual index, 3)) :
    ∃ v T' L, Stand p l e R s m args below meth c T' (locs ++ L) (cells + rm.cells) (slots + rm.slots) ∧ Q v T'.heap L ∧ ∀ t, Steps p.tables e below (T'.setTop (mkF m (pc + 3) Ls (v.toList ++ rest))) t → Steps p.tables e below (T.setTop (mkF m pc Ls st)) t := by
  obtain ⟨cq, kq, q1, q2, q3⟩ := isOf hZ eT E
  obtain ⟨v, vm1, ⟨T', L', k', n'⟩, -, X', ⟨L, hQ, l1, l2, l3⟩, stp⟩ := X.virtualBackUp hx (x := y) (y := z) hown (mvT hZ w1) (mvT hZ w2) (mvT hZ w2') hy (mvT hZ w3) (mvT hZ w4) (backOf (W := W) hM hZ w5 w6 hf hl) q1 q3 (g := mkF m pc Ls st) rfl hsz (Steps.refl _) (argsL := argsL) (rest := rest) hlen hst (by show 2 * 0 + _ ≤ _; omega) hd (fun _ _ => ⟨rfl, eT, hcl, hsl⟩)
  dsimp only [Pt.U, Pt.locs, Pt.cells, Pt.slots] at X' l1 l2 l3 stp hQ
  subst l1 l2 l3
  exact ⟨v, T', L, X', hQ, fun t k => stp.trans k⟩
theorem own_callC (X : Stand p l e R s m args below meth c T locs cells slots) (hx : p.tables.exec = Jvm.exec) (hZ : Z.Warmed39 s.vm) {own : String} {index : Nat} {y : MethodName} {bytes : ByteArray} {mx : Nat} {rm : Room} {b : Addr} {argsL rest : List Value} {Q : Option Value → Heap → List Loc → Prop}
    (hy1 : y.name = "<init>") (hown : s.vm.findClass own = some m.cls) (w1 : (Jvm.Cond.methodLink own index y).before a0 Z = true) (w4 : (Jvm.Cond.instanceMethod y).before a0 Z = true) (w5 : (Jvm.Cond.code y bytes mx none).before a0 Z = true) (w6 : (Jvm.Cond.initialized y.cls).before a0 Z = true) (hy : y.cls ≠ "java/lang/invoke/MethodHandle" ∧ y.cls ≠ "java/lang/invoke/VarHandle")
    (eT : T.heap = h) (hM : own_Met l Z y bytes mx none [] rm (.ref b :: argsL).toArray h Q) (W : Nat) (hf : rm.frames + 1 ≤ R.frames) (hl : W + (mx + 11) + rm.locals ≤ R.locals) (hcl : cells + rm.cells ≤ R.cells) (hsl : slots + rm.slots ≤ R.slots) (hsz : Ls.size = c.maxLocals) (hlen : ∀ sig, parseMethodDescriptor y.desc = some sig → argsL.length = sig.parameters.length)
    (hst : st = argsL.reverse ++ .ref b :: rest) (hW : (rest.map fun v => v.category).sum ≤ W) (hd : decode c.code pc = .ok (.invokespecial index, 3)) :
    ∃ v T' L, Stand p l e R s m args below meth c T' (locs ++ L) (cells + rm.cells) (slots + rm.slots) ∧ Q v T'.heap L ∧ ∀ t, Steps p.tables e below (T'.setTop (mkF m (pc + 3) Ls (v.toList ++ rest))) t → Steps p.tables e below (T.setTop (mkF m pc Ls st)) t := by
  obtain ⟨v, vm1, ⟨T', L', k', n'⟩, -, X', ⟨L, hQ, l1, l2, l3⟩, stp⟩ := X.specialBack hx (y := y) hy1 hown (mvT hZ w1) (mvT hZ w4) (mvT hZ w5) hy (backOf (W := W) hM hZ w5 w6 hf hl) (g := mkF m pc Ls st) rfl hsz (Steps.refl _) (a := b) (argsL := argsL) (rest := rest) hlen hst (by show 2 * 0 + _ ≤ _; omega) hd (fun _ _ => ⟨rfl, eT, hcl, hsl⟩)
  dsimp only [Pt.U, Pt.locs, Pt.cells, Pt.slots] at X' l1 l2 l3 stp hQ
  subst l1 l2 l3
  exact ⟨v, T', L, X', hQ, fun t k => stp.trans k⟩
end Own
section OwnStart
variable {Z : State} {args : Array Value} {t u : Term} {a : Addr} {C n d : String}
theorem own_eqI {k : Int32} (h : (Jvm.Cond.eq t (.int k)).value args Z none Z [] = some true) : t.eval args Z none [] Z = some (.int k) := by
  simp only [Cond.value, Term.eval] at h
  cases ht : t.eval args Z none [] Z with
  | none => simp [ht] at h
  | some x => cases x <;> simp [ht] at h ⊢; exact h
theorem own_eqJ {k : Int64} (h : (Jvm.Cond.eq t (.long k)).value args Z none Z [] = some true) : t.eval args Z none [] Z = some (.long k) := by
  simp only [Cond.value, Term.eval] at h
  cases ht : t.eval args Z none [] Z with
  | none => simp [ht] at h
  | some x => cases x <;> simp [ht] at h ⊢; exact h
theorem own_fld {v : Value} (ev : t.eval args Z none [] Z = some (.ref a)) (h : (Term.field t C n d).eval args Z none [] Z = some v) : Fld Z Z.heap a C n d v := Fld.start ((fld_at ev).symm.trans h)
theorem own_eqR {b : Addr} (ha : t.eval args Z none [] Z = some (.ref b)) (h : (Jvm.Cond.eq u t).value args Z none Z [] = some true) : u.eval args Z none [] Z = some (.ref b) := by
  cases hu : u.eval args Z none [] Z with
  | none => simp [Cond.value, hu] at h
  | some x => cases x <;> simp [Cond.value, hu, ha] at h ⊢; exact h
theorem own_lenOf {cl : Cell} {ty : FieldType} {k : Int32} (ev : t.eval args Z none [] Z = some (.ref a)) (A : Arr Z Z.heap a cl ty) (h : (Term.length t).eval args Z none [] Z = some (.int k)) : cl.slots.size < 2 ^ 31 ∧ cl.slots.size.toInt32 = k := by
  have q := A.fin (Vm.Alike.refl _)
  by_cases hl : cl.slots.size < 2 ^ 31
  · rw [len_f ev q hl] at h
    exact ⟨hl, by cases h; rfl⟩
  · simp [Term.eval, ev, q, hl] at h
end OwnStart
theorem own_bit (x : Int32) : (x &&& (1 : Int32)) = 0 ∨ (x &&& (1 : Int32)) = 1 := by
  have h : (x &&& (1 : Int32)).toBitVec.toNat = x.toBitVec.toNat % 2 := by
    show (x.toBitVec &&& 1#32).toNat = _
    rw [BitVec.toNat_and]
    exact Nat.and_one_is_mod _
  rcases Nat.mod_two_eq_zero_or_one x.toBitVec.toNat with q | q
  · exact Or.inl (Int32.toBitVec_inj.mp (BitVec.eq_of_toNat_eq (h.trans q)))
  · exact Or.inr (Int32.toBitVec_inj.mp (BitVec.eq_of_toNat_eq (h.trans q)))
theorem pn_com_example_nautiloid_nautiloid_eval_BooleanValue : plainName "com/example/nautiloid/nautiloid/eval/BooleanValue" = true := by first | (simp [plainName, overriddenIn]; done) | decide +kernel
theorem ef_1 (m : MethodId) (x0 : Int32) : entryFrame m #[(.int x0)] 1 = mkF m 0 #[.val (.int x0)] [] := by first | (simp [entryFrame, mkF, argsToLocals, Value.category]; done) | rfl
theorem d1_0 : decode prog_33_method_4_code 0 = .ok (.iload_n 0, 1) := by decide +kernel
theorem d1_1 : decode prog_33_method_4_code 1 = .ok (.ifCond .eq 9, 3) := by decide +kernel
theorem d1_10 : decode prog_33_method_4_code 10 = .ok (.getstatic 3, 3) := by decide +kernel
theorem d1_13 : decode prog_33_method_4_code 13 = .ok (.areturn, 1) := by decide +kernel
theorem d1_4 : decode prog_33_method_4_code 4 = .ok (.getstatic 7, 3) := by decide +kernel
theorem d1_7 : decode prog_33_method_4_code 7 = .ok (.goto 6, 3) := by decide +kernel
theorem pn_java_lang_Enum : plainName "java/lang/Enum" = true := by first | (simp [plainName, overriddenIn]; done) | decide +kernel
theorem ef_2 (m : MethodId) (x0 : Addr) : entryFrame m #[(.ref x0)] 1 = mkF m 0 #[.val (.ref x0)] [] := by first | (simp [entryFrame, mkF, argsToLocals, Value.category]; done) | rfl
theorem d2_0 : decode jdk_37_method_2_code 0 = .ok (.aload_n 0, 1) := by decide +kernel
theorem d2_1 : decode jdk_37_method_2_code 1 = .ok (.getfield 7, 3) := by decide +kernel
theorem d2_4 : decode jdk_37_method_2_code 4 = .ok (.ireturn, 1) := by decide +kernel
theorem pn_com_example_nautiloid_nautiloid_eval_BooleanValueOfPinLaw : plainName "com/example/nautiloid/nautiloid/eval/BooleanValueOfPinLaw" = true := by first | (simp [plainName, overriddenIn]; done) | decide +kernel
theorem ef_0 (m : MethodId) (x0 : Int32) : entryFrame m #[(.int x0)] maxLocals = mkF m 0 #[.val (.int x0), .unset, .unset, .unset, .unset] [] := by first | (simp [entryFrame, mkF, argsToLocals, Value.category, maxLocals]; done) | rfl
theorem pd_2 : parseMethodDescriptor "(Z)Lcom/example/nautiloid/nautiloid/eval/BooleanValue;" = some ⟨[.boolean], some (.object "com/example/nautiloid/nautiloid/eval/BooleanValue")⟩ := by decide +kernel
theorem pd_0 : parseMethodDescriptor "()I" = some ⟨[], some .int⟩ := by decide +kernel
set_option maxRecDepth 65536 in
set_option maxHeartbeats 40000000 in
theorem rm1f (l : Launch) (Z : State) (a0 : Array Value) (hw : ∀ d ∈ tables_1, d.before a0 Z = true) (ws : List Jvm.Cond) (p1 : Int32) (a_FALSE : Addr) (a_TRUE : Addr) (h0 : Heap) (n0 : Nat) (Z0 : n0 ≤ h0.size) (S_FALSE : Sta Z h0 "com/example/nautiloid/nautiloid/eval/BooleanValue" "FALSE" "Lcom/example/nautiloid/nautiloid/eval/BooleanValue;" (.ref a_FALSE)) (E_FALSE : Exa Z h0 a_FALSE "com/example/nautiloid/nautiloid/eval/BooleanValue") (S_TRUE : Sta Z h0 "com/example/nautiloid/nautiloid/eval/BooleanValue" "TRUE" "Lcom/example/nautiloid/nautiloid/eval/BooleanValue;" (.ref a_TRUE)) (E_TRUE : Exa Z h0 a_TRUE "com/example/nautiloid/nautiloid/eval/BooleanValue") (F_FALSE_ordinal : Fld Z h0 a_FALSE "java/lang/Enum" "ordinal" "I" (.int (0 : Int32))) (F_TRUE_ordinal : Fld Z h0 a_TRUE "java/lang/Enum" "ordinal" "I" (.int (1 : Int32))) (hc : p1 = 0) :
    own_Met l Z (⟨"com/example/nautiloid/nautiloid/eval/BooleanValue", "of", "(Z)Lcom/example/nautiloid/nautiloid/eval/BooleanValue;"⟩ : MethodName) prog_33_method_4_code 1 (some (.object "com/example/nautiloid/nautiloid/eval/BooleanValue")) ws ({ frames := 0, cells := 0, slots := 0, locals := 0 } : Room) #[(.int p1)] h0 (fun v h L => v = some (.ref a_FALSE) ∧ Fr n0 L ∧ h = h0) := by
  refine own_body (by first | exact plainFor_of_name pn_com_example_nautiloid_nautiloid_eval_BooleanValue | decide +kernel) ?_
  intro p e s m below meth c T0 X0 hx hby hml hret hlk hZ hown hnm e0
  have hown : s.vm.findClass "com/example/nautiloid/nautiloid/eval/BooleanValue" = some m.cls := hown
  have hnm : meth.name = "of" := hnm
  have N0 := Fr.nil n0
  rw [ef_1 m p1]
  show own_Go p e below _ T0 (mkF m 0 #[.val (.int p1)] [])
  refine own_go (fun t k => XS.iloadN X0.here hx rfl (hb hby d1_0) rfl k) ?_
  show own_Go p e below _ T0 (mkF m 1 #[.val (.int p1)] [(.int p1)])
  refine own_go (fun t k => XS.ifYes X0.here hx rfl (pc0 := 1) (pc' := 10) rfl (hb hby d1_1) rfl (XT.i0_eq_t hc) (by decide) (by decide) k) ?_
  show own_Go p e below _ T0 (mkF m 10 #[.val (.int p1)] [])
  obtain ⟨T1, X1, e1, st1⟩ := getS2 X0 hx hZ hown (host := "") (Or.inl (own_w hw 4 rfl)) Via.refl e0 S_FALSE (g := (mkF m 10 #[.val (.int p1)] [])) rfl (hb hby d1_10)
  refine own_go st1 ?_
  show own_Go p e below _ T1 (mkF m 13 #[.val (.int p1)] [(.ref a_FALSE)])
  refine own_retA X1 hx hlk hret (hb hby d1_13) rfl rfl (by decide) (by decide) ?_
  exact ⟨rfl, N0, e1⟩
set_option maxRecDepth 65536 in
set_option maxHeartbeats 40000000 in
theorem rm1t (l : Launch) (Z : State) (a0 : Array Value) (hw : ∀ d ∈ tables_1, d.before a0 Z = true) (ws : List Jvm.Cond) (p1 : Int32) (a_FALSE : Addr) (a_TRUE : Addr) (h0 : Heap) (n0 : Nat) (Z0 : n0 ≤ h0.size) (S_FALSE : Sta Z h0 "com/example/nautiloid/nautiloid/eval/BooleanValue" "FALSE" "Lcom/example/nautiloid/nautiloid/eval/BooleanValue;" (.ref a_FALSE)) (E_FALSE : Exa Z h0 a_FALSE "com/example/nautiloid/nautiloid/eval/BooleanValue") (S_TRUE : Sta Z h0 "com/example/nautiloid/nautiloid/eval/BooleanValue" "TRUE" "Lcom/example/nautiloid/nautiloid/eval/BooleanValue;" (.ref a_TRUE)) (E_TRUE : Exa Z h0 a_TRUE "com/example/nautiloid/nautiloid/eval/BooleanValue") (F_FALSE_ordinal : Fld Z h0 a_FALSE "java/lang/Enum" "ordinal" "I" (.int (0 : Int32))) (F_TRUE_ordinal : Fld Z h0 a_TRUE "java/lang/Enum" "ordinal" "I" (.int (1 : Int32))) (hc : ¬ p1 = 0) :
    own_Met l Z (⟨"com/example/nautiloid/nautiloid/eval/BooleanValue", "of", "(Z)Lcom/example/nautiloid/nautiloid/eval/BooleanValue;"⟩ : MethodName) prog_33_method_4_code 1 (some (.object "com/example/nautiloid/nautiloid/eval/BooleanValue")) ws ({ frames := 0, cells := 0, slots := 0, locals := 0 } : Room) #[(.int p1)] h0 (fun v h L => v = some (.ref a_TRUE) ∧ Fr n0 L ∧ h = h0) := by
  refine own_body (by first | exact plainFor_of_name pn_com_example_nautiloid_nautiloid_eval_BooleanValue | decide +kernel) ?_
  intro p e s m below meth c T0 X0 hx hby hml hret hlk hZ hown hnm e0
  have hown : s.vm.findClass "com/example/nautiloid/nautiloid/eval/BooleanValue" = some m.cls := hown
  have hnm : meth.name = "of" := hnm
  have N0 := Fr.nil n0
  rw [ef_1 m p1]
  show own_Go p e below _ T0 (mkF m 0 #[.val (.int p1)] [])
  refine own_go (fun t k => XS.iloadN X0.here hx rfl (hb hby d1_0) rfl k) ?_
  show own_Go p e below _ T0 (mkF m 1 #[.val (.int p1)] [(.int p1)])
  refine own_go (fun t k => XS.ifNo X0.here hx rfl (hb hby d1_1) rfl (XT.i0_eq_f hc) k) ?_
  show own_Go p e below _ T0 (mkF m 4 #[.val (.int p1)] [])
  obtain ⟨T1, X1, e1, st1⟩ := getS2 X0 hx hZ hown (host := "") (Or.inl (own_w hw 6 rfl)) Via.refl e0 S_TRUE (g := (mkF m 4 #[.val (.int p1)] [])) rfl (hb hby d1_4)
  refine own_go st1 ?_
  show own_Go p e below _ T1 (mkF m 7 #[.val (.int p1)] [(.ref a_TRUE)])
  refine own_go (fun t k => XS.goto X1.here hx rfl (pc0 := 7) (pc' := 13) rfl (hb hby d1_7) (by decide) (by decide) k) ?_
  show own_Go p e below _ T1 (mkF m 13 #[.val (.int p1)] [(.ref a_TRUE)])
  refine own_retA X1 hx hlk hret (hb hby d1_13) rfl rfl (by decide) (by decide) ?_
  exact ⟨rfl, N0, e1⟩
set_option maxRecDepth 65536 in
set_option maxHeartbeats 40000000 in
theorem rm2 (l : Launch) (Z : State) (a0 : Array Value) (hw : ∀ d ∈ tables_1, d.before a0 Z = true) (ws : List Jvm.Cond) (a1 : Addr) (k1 : Int32) (h0 : Heap) (n0 : Nat) (Z0 : n0 ≤ h0.size) (F1 : Fld Z h0 a1 "java/lang/Enum" "ordinal" "I" (.int k1)) :
    own_Met l Z (⟨"java/lang/Enum", "ordinal", "()I"⟩ : MethodName) jdk_37_method_2_code 1 (some .int) ws ({ frames := 0, cells := 0, slots := 0, locals := 0 } : Room) #[(.ref a1)] h0 (fun v h L => v = some (.int k1) ∧ Fr n0 L ∧ h = h0) := by
  refine own_body (by first | exact plainFor_of_name pn_java_lang_Enum | decide +kernel) ?_
  intro p e s m below meth c T0 X0 hx hby hml hret hlk hZ hown hnm e0
  have hown : s.vm.findClass "java/lang/Enum" = some m.cls := hown
  have hnm : meth.name = "ordinal" := hnm
  have N0 := Fr.nil n0
  rw [ef_2 m a1]
  show own_Go p e below _ T0 (mkF m 0 #[.val (.ref a1)] [])
  refine own_go (fun t k => XS.aloadN X0.here hx rfl (hb hby d2_0) rfl rfl k) ?_
  show own_Go p e below _ T0 (mkF m 1 #[.val (.ref a1)] [(.ref a1)])
  obtain ⟨T1, X1, e1, st1⟩ := getF X0 hx hZ hown (host := "") (Or.inl (own_w hw 15 rfl)) Via.refl e0 F1 (g := (mkF m 1 #[.val (.ref a1)] [(.ref a1)])) rfl rfl (hb hby d2_1)
  refine own_go st1 ?_
  show own_Go p e below _ T1 (mkF m 4 #[.val (.ref a1)] [(.int k1)])
  refine own_retI X1 hx hlk hret (hb hby d2_4) (by decide) (by decide) ?_
  exact ⟨rfl, N0, e1⟩
set_option maxRecDepth 65536 in
set_option maxHeartbeats 40000000 in
theorem rm0 (l : Launch) (Z : State) (a0 : Array Value) (hw : ∀ d ∈ tables_1, d.before a0 Z = true) (ws : List Jvm.Cond) (p1 : Int32) (a_FALSE : Addr) (a_TRUE : Addr) (h0 : Heap) (n0 : Nat) (Z0 : n0 ≤ h0.size) (S_FALSE : Sta Z h0 "com/example/nautiloid/nautiloid/eval/BooleanValue" "FALSE" "Lcom/example/nautiloid/nautiloid/eval/BooleanValue;" (.ref a_FALSE)) (E_FALSE : Exa Z h0 a_FALSE "com/example/nautiloid/nautiloid/eval/BooleanValue") (S_TRUE : Sta Z h0 "com/example/nautiloid/nautiloid/eval/BooleanValue" "TRUE" "Lcom/example/nautiloid/nautiloid/eval/BooleanValue;" (.ref a_TRUE)) (E_TRUE : Exa Z h0 a_TRUE "com/example/nautiloid/nautiloid/eval/BooleanValue") (F_FALSE_ordinal : Fld Z h0 a_FALSE "java/lang/Enum" "ordinal" "I" (.int (0 : Int32))) (F_TRUE_ordinal : Fld Z h0 a_TRUE "java/lang/Enum" "ordinal" "I" (.int (1 : Int32))) :
    own_Met l Z x code maxLocals ret ws room_1 #[(.int p1)] h0 (fun v h L => v = some (.int 1) ∧ Fr n0 L) := by
  refine own_body (by first | exact plainFor_of_name pn_com_example_nautiloid_nautiloid_eval_BooleanValueOfPinLaw | decide +kernel) ?_
  intro p e s m below meth c T0 X0 hx hby hml hret hlk hZ hown hnm e0
  have hown : s.vm.findClass "com/example/nautiloid/nautiloid/eval/BooleanValueOfPinLaw" = some m.cls := hown
  have hnm : meth.name = "law" := hnm
  have N0 := Fr.nil n0
  rw [ef_0 m p1]
  show own_Go p e below _ T0 (mkF m 0 #[.val (.int p1), .unset, .unset, .unset, .unset] [])
  refine own_go (fun t k => XS.iloadN X0.here hx rfl (hb hby at_0) rfl k) ?_
  show own_Go p e below _ T0 (mkF m 1 #[.val (.int p1), .unset, .unset, .unset, .unset] [(.int p1)])
  refine own_go (fun t k => XS.iconst X0.here hx rfl (hb hby at_1) k) ?_
  show own_Go p e below _ T0 (mkF m 2 #[.val (.int p1), .unset, .unset, .unset, .unset] [(.int (1 : Int32)), (.int p1)])
  refine own_go (fun t k => XS.iand X0.here hx rfl (hb hby at_2) rfl k) ?_
  show own_Go p e below _ T0 (mkF m 3 #[.val (.int p1), .unset, .unset, .unset, .unset] [(.int (p1 &&& (1 : Int32)))])
  refine own_go (fun t k => XS.istoreN X0.here hx rfl (hb hby at_3) rfl (l' := #[.val (.int p1), .val (.int (p1 &&& (1 : Int32))), .unset, .unset, .unset]) rfl k) ?_
  show own_Go p e below _ T0 (mkF m 4 #[.val (.int p1), .val (.int (p1 &&& (1 : Int32))), .unset, .unset, .unset] [])
  refine own_go (fun t k => XS.iloadN X0.here hx rfl (hb hby at_4) rfl k) ?_
  show own_Go p e below _ T0 (mkF m 5 #[.val (.int p1), .val (.int (p1 &&& (1 : Int32))), .unset, .unset, .unset] [(.int (p1 &&& (1 : Int32)))])
  by_cases hc5 : (p1 &&& (1 : Int32)) = 0
  · show own_Go p e below _ T0 (mkF m 5 #[.val (.int p1), .val (.int (p1 &&& (1 : Int32))), .unset, .unset, .unset] [(.int (p1 &&& (1 : Int32)))])
    refine own_go (fun t k => XS.ifYes X0.here hx rfl (pc0 := 5) (pc' := 12) rfl (hb hby at_5) rfl (XT.i0_eq_t hc5) (by decide) (by decide) k) ?_
    show own_Go p e below _ T0 (mkF m 12 #[.val (.int p1), .val (.int (p1 &&& (1 : Int32))), .unset, .unset, .unset] [])
    refine own_go (fun t k => XS.iconst X0.here hx rfl (hb hby at_12) k) ?_
    show own_Go p e below _ T0 (mkF m 13 #[.val (.int p1), .val (.int (p1 &&& (1 : Int32))), .unset, .unset, .unset] [(.int (0 : Int32))])
    refine own_go (fun t k => XS.istoreN X0.here hx rfl (hb hby at_13) rfl (l' := #[.val (.int p1), .val (.int (p1 &&& (1 : Int32))), .val (.int (0 : Int32)), .unset, .unset]) rfl k) ?_
    show own_Go p e below _ T0 (mkF m 14 #[.val (.int p1), .val (.int (p1 &&& (1 : Int32))), .val (.int (0 : Int32)), .unset, .unset] [])
    refine own_go (fun t k => XS.iloadN X0.here hx rfl (hb hby at_14) rfl k) ?_
    show own_Go p e below _ T0 (mkF m 15 #[.val (.int p1), .val (.int (p1 &&& (1 : Int32))), .val (.int (0 : Int32)), .unset, .unset] [(.int (0 : Int32))])
    obtain ⟨_, T1, L1, X1, ⟨rfl, N1, e1⟩, st1⟩ := own_callS X0 hx hZ (y := (⟨"com/example/nautiloid/nautiloid/eval/BooleanValue", "of", "(Z)Lcom/example/nautiloid/nautiloid/eval/BooleanValue;"⟩ : MethodName)) (argsL := [(.int (0 : Int32))]) (rest := []) (Ls := #[.val (.int p1), .val (.int (p1 &&& (1 : Int32))), .val (.int (0 : Int32)), .unset, .unset]) hown (own_w hw 0 rfl) (own_w hw 1 rfl) (own_w hw 2 rfl) (own_w hw 3 rfl) (by decide) e0 (rm1f l Z a0 hw [] (0 : Int32) a_FALSE a_TRUE h0 n0 Z0 S_FALSE E_FALSE S_TRUE E_TRUE F_FALSE_ordinal F_TRUE_ordinal (by decide)) 0 (by decide) (by decide) (by decide) (by decide) (by rw [hml]; rfl) (lenOf pd_2 rfl) rfl (Nat.le_of_eq rfl) (hb hby at_15)
    have M1 := Fr.app N0 N1
    refine own_go st1 ?_
    show own_Go p e below _ T1 (mkF m 18 #[.val (.int p1), .val (.int (p1 &&& (1 : Int32))), .val (.int (0 : Int32)), .unset, .unset] [(.ref a_FALSE)])
    refine own_go (fun t k => XS.astoreN X1.here hx rfl (hb hby at_18) rfl rfl (l' := #[.val (.int p1), .val (.int (p1 &&& (1 : Int32))), .val (.int (0 : Int32)), .val (.ref a_FALSE), .unset]) rfl k) ?_
    show own_Go p e below _ T1 (mkF m 19 #[.val (.int p1), .val (.int (p1 &&& (1 : Int32))), .val (.int (0 : Int32)), .val (.ref a_FALSE), .unset] [])
    refine own_go (fun t k => XS.iloadN X1.here hx rfl (hb hby at_19) rfl k) ?_
    show own_Go p e below _ T1 (mkF m 20 #[.val (.int p1), .val (.int (p1 &&& (1 : Int32))), .val (.int (0 : Int32)), .val (.ref a_FALSE), .unset] [(.int (0 : Int32))])
    refine own_go (fun t k => XS.ifNo X1.here hx rfl (hb hby at_20) rfl (XT.i0_ne_f (by decide)) k) ?_
    show own_Go p e below _ T1 (mkF m 23 #[.val (.int p1), .val (.int (p1 &&& (1 : Int32))), .val (.int (0 : Int32)), .val (.ref a_FALSE), .unset] [])
    refine own_go (fun t k => XS.iconst X1.here hx rfl (hb hby at_23) k) ?_
    show own_Go p e below _ T1 (mkF m 24 #[.val (.int p1), .val (.int (p1 &&& (1 : Int32))), .val (.int (0 : Int32)), .val (.ref a_FALSE), .unset] [(.int (1 : Int32))])
    refine own_go (fun t k => XS.goto X1.here hx rfl (pc0 := 24) (pc' := 28) rfl (hb hby at_24) (by decide) (by decide) k) ?_
    show own_Go p e below _ T1 (mkF m 28 #[.val (.int p1), .val (.int (p1 &&& (1 : Int32))), .val (.int (0 : Int32)), .val (.ref a_FALSE), .unset] [(.int (1 : Int32))])
    obtain ⟨_, T2, L2, X2, ⟨rfl, N2, e2⟩, st2⟩ := own_callS X1 hx hZ (y := (⟨"com/example/nautiloid/nautiloid/eval/BooleanValue", "of", "(Z)Lcom/example/nautiloid/nautiloid/eval/BooleanValue;"⟩ : MethodName)) (argsL := [(.int (1 : Int32))]) (rest := []) (Ls := #[.val (.int p1), .val (.int (p1 &&& (1 : Int32))), .val (.int (0 : Int32)), .val (.ref a_FALSE), .unset]) hown (own_w hw 0 rfl) (own_w hw 1 rfl) (own_w hw 2 rfl) (own_w hw 3 rfl) (by decide) e1 (rm1t l Z a0 hw [] (1 : Int32) a_FALSE a_TRUE h0 n0 Z0 S_FALSE E_FALSE S_TRUE E_TRUE F_FALSE_ordinal F_TRUE_ordinal (by decide)) 0 (by decide) (by decide) (by decide) (by decide) (by rw [hml]; rfl) (lenOf pd_2 rfl) rfl (Nat.le_of_eq rfl) (hb hby at_28)
    have M2 := Fr.app M1 N2
    refine own_go st2 ?_
    show own_Go p e below _ T2 (mkF m 31 #[.val (.int p1), .val (.int (p1 &&& (1 : Int32))), .val (.int (0 : Int32)), .val (.ref a_FALSE), .unset] [(.ref a_TRUE)])
    refine own_go (fun t k => XS.astore X2.here hx rfl (hb hby at_31) rfl rfl (l' := #[.val (.int p1), .val (.int (p1 &&& (1 : Int32))), .val (.int (0 : Int32)), .val (.ref a_FALSE), .val (.ref a_TRUE)]) rfl k) ?_
    show own_Go p e below _ T2 (mkF m 33 #[.val (.int p1), .val (.int (p1 &&& (1 : Int32))), .val (.int (0 : Int32)), .val (.ref a_FALSE), .val (.ref a_TRUE)] [])
    refine own_go (fun t k => XS.aloadN X2.here hx rfl (hb hby at_33) rfl rfl k) ?_
    show own_Go p e below _ T2 (mkF m 34 #[.val (.int p1), .val (.int (p1 &&& (1 : Int32))), .val (.int (0 : Int32)), .val (.ref a_FALSE), .val (.ref a_TRUE)] [(.ref a_FALSE)])
    refine own_go (fun t k => XS.ifnullNo X2.here hx rfl (hb hby at_34) rfl k) ?_
    show own_Go p e below _ T2 (mkF m 37 #[.val (.int p1), .val (.int (p1 &&& (1 : Int32))), .val (.int (0 : Int32)), .val (.ref a_FALSE), .val (.ref a_TRUE)] [])
    refine own_go (fun t k => XS.aload X2.here hx rfl (hb hby at_37) rfl rfl k) ?_
    show own_Go p e below _ T2 (mkF m 39 #[.val (.int p1), .val (.int (p1 &&& (1 : Int32))), .val (.int (0 : Int32)), .val (.ref a_FALSE), .val (.ref a_TRUE)] [(.ref a_TRUE)])
    refine own_go (fun t k => XS.ifnonnullYes X2.here hx rfl (pc0 := 39) (pc' := 44) rfl (hb hby at_39) rfl (by decide) (by decide) k) ?_
    show own_Go p e below _ T2 (mkF m 44 #[.val (.int p1), .val (.int (p1 &&& (1 : Int32))), .val (.int (0 : Int32)), .val (.ref a_FALSE), .val (.ref a_TRUE)] [])
    refine own_go (fun t k => XS.aloadN X2.here hx rfl (hb hby at_44) rfl rfl k) ?_
    show own_Go p e below _ T2 (mkF m 45 #[.val (.int p1), .val (.int (p1 &&& (1 : Int32))), .val (.int (0 : Int32)), .val (.ref a_FALSE), .val (.ref a_TRUE)] [(.ref a_FALSE)])
    obtain ⟨_, T3, L3, X3, ⟨rfl, N3, e3⟩, st3⟩ := own_callU X2 hx hZ (y := (⟨"com/example/nautiloid/nautiloid/eval/BooleanValue", "ordinal", "()I"⟩ : MethodName)) (z := (⟨"java/lang/Enum", "ordinal", "()I"⟩ : MethodName)) (b := a_FALSE) (owner := "java/lang/Enum") (argsL := []) (rest := []) (Ls := #[.val (.int p1), .val (.int (p1 &&& (1 : Int32))), .val (.int (0 : Int32)), .val (.ref a_FALSE), .val (.ref a_TRUE)]) hown (own_w hw 8 rfl) (own_w hw 9 rfl) (own_w hw 10 rfl) (own_w hw 12 rfl) (own_w hw 11 rfl) (own_w hw 14 rfl) (own_w hw 13 rfl) (by decide) e2 E_FALSE (rm2 l Z a0 hw [] a_FALSE (0 : Int32) h0 n0 Z0 F_FALSE_ordinal) 0 (by decide) (by decide) (by decide) (by decide) (by rw [hml]; rfl) (lenOf pd_0 rfl) rfl (Nat.le_of_eq rfl) (hb hby at_45)
    have M3 := Fr.app M2 N3
    refine own_go st3 ?_
    show own_Go p e below _ T3 (mkF m 48 #[.val (.int p1), .val (.int (p1 &&& (1 : Int32))), .val (.int (0 : Int32)), .val (.ref a_FALSE), .val (.ref a_TRUE)] [(.int (0 : Int32))])
    refine own_go (fun t k => XS.iloadN X3.here hx rfl (hb hby at_48) rfl k) ?_
    show own_Go p e below _ T3 (mkF m 49 #[.val (.int p1), .val (.int (p1 &&& (1 : Int32))), .val (.int (0 : Int32)), .val (.ref a_FALSE), .val (.ref a_TRUE)] [(.int (p1 &&& (1 : Int32))), (.int (0 : Int32))])
    refine own_go (fun t k => XS.icmpNo X3.here hx rfl (hb hby at_49) rfl (XT.ii_ne_f (by rw [hc5])) k) ?_
    show own_Go p e below _ T3 (mkF m 52 #[.val (.int p1), .val (.int (p1 &&& (1 : Int32))), .val (.int (0 : Int32)), .val (.ref a_FALSE), .val (.ref a_TRUE)] [])
    refine own_go (fun t k => XS.aload X3.here hx rfl (hb hby at_52) rfl rfl k) ?_
    show own_Go p e below _ T3 (mkF m 54 #[.val (.int p1), .val (.int (p1 &&& (1 : Int32))), .val (.int (0 : Int32)), .val (.ref a_FALSE), .val (.ref a_TRUE)] [(.ref a_TRUE)])
    obtain ⟨_, T4, L4, X4, ⟨rfl, N4, e4⟩, st4⟩ := own_callU X3 hx hZ (y := (⟨"com/example/nautiloid/nautiloid/eval/BooleanValue", "ordinal", "()I"⟩ : MethodName)) (z := (⟨"java/lang/Enum", "ordinal", "()I"⟩ : MethodName)) (b := a_TRUE) (owner := "java/lang/Enum") (argsL := []) (rest := []) (Ls := #[.val (.int p1), .val (.int (p1 &&& (1 : Int32))), .val (.int (0 : Int32)), .val (.ref a_FALSE), .val (.ref a_TRUE)]) hown (own_w hw 8 rfl) (own_w hw 9 rfl) (own_w hw 10 rfl) (own_w hw 12 rfl) (own_w hw 11 rfl) (own_w hw 14 rfl) (own_w hw 13 rfl) (by decide) e3 E_TRUE (rm2 l Z a0 hw [] a_TRUE (1 : Int32) h0 n0 Z0 F_TRUE_ordinal) 0 (by decide) (by decide) (by decide) (by decide) (by rw [hml]; rfl) (lenOf pd_0 rfl) rfl (Nat.le_of_eq rfl) (hb hby at_54)
    have M4 := Fr.app M3 N4
    refine own_go st4 ?_
    show own_Go p e below _ T4 (mkF m 57 #[.val (.int p1), .val (.int (p1 &&& (1 : Int32))), .val (.int (0 : Int32)), .val (.ref a_FALSE), .val (.ref a_TRUE)] [(.int (1 : Int32))])
    refine own_go (fun t k => XS.iconst X4.here hx rfl (hb hby at_57) k) ?_
    show own_Go p e below _ T4 (mkF m 58 #[.val (.int p1), .val (.int (p1 &&& (1 : Int32))), .val (.int (0 : Int32)), .val (.ref a_FALSE), .val (.ref a_TRUE)] [(.int (1 : Int32)), (.int (1 : Int32))])
    refine own_go (fun t k => XS.iloadN X4.here hx rfl (hb hby at_58) rfl k) ?_
    show own_Go p e below _ T4 (mkF m 59 #[.val (.int p1), .val (.int (p1 &&& (1 : Int32))), .val (.int (0 : Int32)), .val (.ref a_FALSE), .val (.ref a_TRUE)] [(.int (p1 &&& (1 : Int32))), (.int (1 : Int32)), (.int (1 : Int32))])
    refine own_go (fun t k => XS.isub X4.here hx rfl (hb hby at_59) rfl k) ?_
    show own_Go p e below _ T4 (mkF m 60 #[.val (.int p1), .val (.int (p1 &&& (1 : Int32))), .val (.int (0 : Int32)), .val (.ref a_FALSE), .val (.ref a_TRUE)] [(.int ((1 : Int32) - (p1 &&& (1 : Int32)))), (.int (1 : Int32))])
    refine own_go (fun t k => XS.icmpNo X4.here hx rfl (hb hby at_60) rfl (XT.ii_ne_f (by rw [hc5]; decide)) k) ?_
    show own_Go p e below _ T4 (mkF m 63 #[.val (.int p1), .val (.int (p1 &&& (1 : Int32))), .val (.int (0 : Int32)), .val (.ref a_FALSE), .val (.ref a_TRUE)] [])
    refine own_go (fun t k => XS.iconst X4.here hx rfl (hb hby at_63) k) ?_
    show own_Go p e below _ T4 (mkF m 64 #[.val (.int p1), .val (.int (p1 &&& (1 : Int32))), .val (.int (0 : Int32)), .val (.ref a_FALSE), .val (.ref a_TRUE)] [(.int (1 : Int32))])
    refine own_go (fun t k => XS.goto X4.here hx rfl (pc0 := 64) (pc' := 68) rfl (hb hby at_64) (by decide) (by decide) k) ?_
    show own_Go p e below _ T4 (mkF m 68 #[.val (.int p1), .val (.int (p1 &&& (1 : Int32))), .val (.int (0 : Int32)), .val (.ref a_FALSE), .val (.ref a_TRUE)] [(.int (1 : Int32))])
    refine own_retZ X4 hx hlk hret (hb hby at_68) (Or.inr rfl) (by decide) (by decide) ?_
    exact ⟨rfl, M4⟩
  · show own_Go p e below _ T0 (mkF m 5 #[.val (.int p1), .val (.int (p1 &&& (1 : Int32))), .unset, .unset, .unset] [(.int (p1 &&& (1 : Int32)))])
    refine own_go (fun t k => XS.ifNo X0.here hx rfl (hb hby at_5) rfl (XT.i0_eq_f hc5) k) ?_
    show own_Go p e below _ T0 (mkF m 8 #[.val (.int p1), .val (.int (p1 &&& (1 : Int32))), .unset, .unset, .unset] [])
    have hone : (p1 &&& (1 : Int32)) = 1 := (own_bit p1).resolve_left hc5
    refine own_go (fun t k => XS.iconst X0.here hx rfl (hb hby at_8) k) ?_
    show own_Go p e below _ T0 (mkF m 9 #[.val (.int p1), .val (.int (p1 &&& (1 : Int32))), .unset, .unset, .unset] [(.int (1 : Int32))])
    refine own_go (fun t k => XS.goto X0.here hx rfl (pc0 := 9) (pc' := 13) rfl (hb hby at_9) (by decide) (by decide) k) ?_
    show own_Go p e below _ T0 (mkF m 13 #[.val (.int p1), .val (.int (p1 &&& (1 : Int32))), .unset, .unset, .unset] [(.int (1 : Int32))])
    refine own_go (fun t k => XS.istoreN X0.here hx rfl (hb hby at_13) rfl (l' := #[.val (.int p1), .val (.int (p1 &&& (1 : Int32))), .val (.int (1 : Int32)), .unset, .unset]) rfl k) ?_
    show own_Go p e below _ T0 (mkF m 14 #[.val (.int p1), .val (.int (p1 &&& (1 : Int32))), .val (.int (1 : Int32)), .unset, .unset] [])
    refine own_go (fun t k => XS.iloadN X0.here hx rfl (hb hby at_14) rfl k) ?_
    show own_Go p e below _ T0 (mkF m 15 #[.val (.int p1), .val (.int (p1 &&& (1 : Int32))), .val (.int (1 : Int32)), .unset, .unset] [(.int (1 : Int32))])
    obtain ⟨_, T5, L5, X5, ⟨rfl, N5, e5⟩, st5⟩ := own_callS X0 hx hZ (y := (⟨"com/example/nautiloid/nautiloid/eval/BooleanValue", "of", "(Z)Lcom/example/nautiloid/nautiloid/eval/BooleanValue;"⟩ : MethodName)) (argsL := [(.int (1 : Int32))]) (rest := []) (Ls := #[.val (.int p1), .val (.int (p1 &&& (1 : Int32))), .val (.int (1 : Int32)), .unset, .unset]) hown (own_w hw 0 rfl) (own_w hw 1 rfl) (own_w hw 2 rfl) (own_w hw 3 rfl) (by decide) e0 (rm1t l Z a0 hw [] (1 : Int32) a_FALSE a_TRUE h0 n0 Z0 S_FALSE E_FALSE S_TRUE E_TRUE F_FALSE_ordinal F_TRUE_ordinal (by decide)) 0 (by decide) (by decide) (by decide) (by decide) (by rw [hml]; rfl) (lenOf pd_2 rfl) rfl (Nat.le_of_eq rfl) (hb hby at_15)
    have M5 := Fr.app N0 N5
    refine own_go st5 ?_
    show own_Go p e below _ T5 (mkF m 18 #[.val (.int p1), .val (.int (p1 &&& (1 : Int32))), .val (.int (1 : Int32)), .unset, .unset] [(.ref a_TRUE)])
    refine own_go (fun t k => XS.astoreN X5.here hx rfl (hb hby at_18) rfl rfl (l' := #[.val (.int p1), .val (.int (p1 &&& (1 : Int32))), .val (.int (1 : Int32)), .val (.ref a_TRUE), .unset]) rfl k) ?_
    show own_Go p e below _ T5 (mkF m 19 #[.val (.int p1), .val (.int (p1 &&& (1 : Int32))), .val (.int (1 : Int32)), .val (.ref a_TRUE), .unset] [])
    refine own_go (fun t k => XS.iloadN X5.here hx rfl (hb hby at_19) rfl k) ?_
    show own_Go p e below _ T5 (mkF m 20 #[.val (.int p1), .val (.int (p1 &&& (1 : Int32))), .val (.int (1 : Int32)), .val (.ref a_TRUE), .unset] [(.int (1 : Int32))])
    refine own_go (fun t k => XS.ifYes X5.here hx rfl (pc0 := 20) (pc' := 27) rfl (hb hby at_20) rfl (XT.i0_ne_t (by decide)) (by decide) (by decide) k) ?_
    show own_Go p e below _ T5 (mkF m 27 #[.val (.int p1), .val (.int (p1 &&& (1 : Int32))), .val (.int (1 : Int32)), .val (.ref a_TRUE), .unset] [])
    refine own_go (fun t k => XS.iconst X5.here hx rfl (hb hby at_27) k) ?_
    show own_Go p e below _ T5 (mkF m 28 #[.val (.int p1), .val (.int (p1 &&& (1 : Int32))), .val (.int (1 : Int32)), .val (.ref a_TRUE), .unset] [(.int (0 : Int32))])
    obtain ⟨_, T6, L6, X6, ⟨rfl, N6, e6⟩, st6⟩ := own_callS X5 hx hZ (y := (⟨"com/example/nautiloid/nautiloid/eval/BooleanValue", "of", "(Z)Lcom/example/nautiloid/nautiloid/eval/BooleanValue;"⟩ : MethodName)) (argsL := [(.int (0 : Int32))]) (rest := []) (Ls := #[.val (.int p1), .val (.int (p1 &&& (1 : Int32))), .val (.int (1 : Int32)), .val (.ref a_TRUE), .unset]) hown (own_w hw 0 rfl) (own_w hw 1 rfl) (own_w hw 2 rfl) (own_w hw 3 rfl) (by decide) e5 (rm1f l Z a0 hw [] (0 : Int32) a_FALSE a_TRUE h0 n0 Z0 S_FALSE E_FALSE S_TRUE E_TRUE F_FALSE_ordinal F_TRUE_ordinal (by decide)) 0 (by decide) (by decide) (by decide) (by decide) (by rw [hml]; rfl) (lenOf pd_2 rfl) rfl (Nat.le_of_eq rfl) (hb hby at_28)
    have M6 := Fr.app M5 N6
    refine own_go st6 ?_
    show own_Go p e below _ T6 (mkF m 31 #[.val (.int p1), .val (.int (p1 &&& (1 : Int32))), .val (.int (1 : Int32)), .val (.ref a_TRUE), .unset] [(.ref a_FALSE)])
    refine own_go (fun t k => XS.astore X6.here hx rfl (hb hby at_31) rfl rfl (l' := #[.val (.int p1), .val (.int (p1 &&& (1 : Int32))), .val (.int (1 : Int32)), .val (.ref a_TRUE), .val (.ref a_FALSE)]) rfl k) ?_
    show own_Go p e below _ T6 (mkF m 33 #[.val (.int p1), .val (.int (p1 &&& (1 : Int32))), .val (.int (1 : Int32)), .val (.ref a_TRUE), .val (.ref a_FALSE)] [])
    refine own_go (fun t k => XS.aloadN X6.here hx rfl (hb hby at_33) rfl rfl k) ?_
    show own_Go p e below _ T6 (mkF m 34 #[.val (.int p1), .val (.int (p1 &&& (1 : Int32))), .val (.int (1 : Int32)), .val (.ref a_TRUE), .val (.ref a_FALSE)] [(.ref a_TRUE)])
    refine own_go (fun t k => XS.ifnullNo X6.here hx rfl (hb hby at_34) rfl k) ?_
    show own_Go p e below _ T6 (mkF m 37 #[.val (.int p1), .val (.int (p1 &&& (1 : Int32))), .val (.int (1 : Int32)), .val (.ref a_TRUE), .val (.ref a_FALSE)] [])
    refine own_go (fun t k => XS.aload X6.here hx rfl (hb hby at_37) rfl rfl k) ?_
    show own_Go p e below _ T6 (mkF m 39 #[.val (.int p1), .val (.int (p1 &&& (1 : Int32))), .val (.int (1 : Int32)), .val (.ref a_TRUE), .val (.ref a_FALSE)] [(.ref a_FALSE)])
    refine own_go (fun t k => XS.ifnonnullYes X6.here hx rfl (pc0 := 39) (pc' := 44) rfl (hb hby at_39) rfl (by decide) (by decide) k) ?_
    show own_Go p e below _ T6 (mkF m 44 #[.val (.int p1), .val (.int (p1 &&& (1 : Int32))), .val (.int (1 : Int32)), .val (.ref a_TRUE), .val (.ref a_FALSE)] [])
    refine own_go (fun t k => XS.aloadN X6.here hx rfl (hb hby at_44) rfl rfl k) ?_
    show own_Go p e below _ T6 (mkF m 45 #[.val (.int p1), .val (.int (p1 &&& (1 : Int32))), .val (.int (1 : Int32)), .val (.ref a_TRUE), .val (.ref a_FALSE)] [(.ref a_TRUE)])
    obtain ⟨_, T7, L7, X7, ⟨rfl, N7, e7⟩, st7⟩ := own_callU X6 hx hZ (y := (⟨"com/example/nautiloid/nautiloid/eval/BooleanValue", "ordinal", "()I"⟩ : MethodName)) (z := (⟨"java/lang/Enum", "ordinal", "()I"⟩ : MethodName)) (b := a_TRUE) (owner := "java/lang/Enum") (argsL := []) (rest := []) (Ls := #[.val (.int p1), .val (.int (p1 &&& (1 : Int32))), .val (.int (1 : Int32)), .val (.ref a_TRUE), .val (.ref a_FALSE)]) hown (own_w hw 8 rfl) (own_w hw 9 rfl) (own_w hw 10 rfl) (own_w hw 12 rfl) (own_w hw 11 rfl) (own_w hw 14 rfl) (own_w hw 13 rfl) (by decide) e6 E_TRUE (rm2 l Z a0 hw [] a_TRUE (1 : Int32) h0 n0 Z0 F_TRUE_ordinal) 0 (by decide) (by decide) (by decide) (by decide) (by rw [hml]; rfl) (lenOf pd_0 rfl) rfl (Nat.le_of_eq rfl) (hb hby at_45)
    have M7 := Fr.app M6 N7
    refine own_go st7 ?_
    show own_Go p e below _ T7 (mkF m 48 #[.val (.int p1), .val (.int (p1 &&& (1 : Int32))), .val (.int (1 : Int32)), .val (.ref a_TRUE), .val (.ref a_FALSE)] [(.int (1 : Int32))])
    refine own_go (fun t k => XS.iloadN X7.here hx rfl (hb hby at_48) rfl k) ?_
    show own_Go p e below _ T7 (mkF m 49 #[.val (.int p1), .val (.int (p1 &&& (1 : Int32))), .val (.int (1 : Int32)), .val (.ref a_TRUE), .val (.ref a_FALSE)] [(.int (p1 &&& (1 : Int32))), (.int (1 : Int32))])
    refine own_go (fun t k => XS.icmpNo X7.here hx rfl (hb hby at_49) rfl (XT.ii_ne_f hone.symm) k) ?_
    show own_Go p e below _ T7 (mkF m 52 #[.val (.int p1), .val (.int (p1 &&& (1 : Int32))), .val (.int (1 : Int32)), .val (.ref a_TRUE), .val (.ref a_FALSE)] [])
    refine own_go (fun t k => XS.aload X7.here hx rfl (hb hby at_52) rfl rfl k) ?_
    show own_Go p e below _ T7 (mkF m 54 #[.val (.int p1), .val (.int (p1 &&& (1 : Int32))), .val (.int (1 : Int32)), .val (.ref a_TRUE), .val (.ref a_FALSE)] [(.ref a_FALSE)])
    obtain ⟨_, T8, L8, X8, ⟨rfl, N8, e8⟩, st8⟩ := own_callU X7 hx hZ (y := (⟨"com/example/nautiloid/nautiloid/eval/BooleanValue", "ordinal", "()I"⟩ : MethodName)) (z := (⟨"java/lang/Enum", "ordinal", "()I"⟩ : MethodName)) (b := a_FALSE) (owner := "java/lang/Enum") (argsL := []) (rest := []) (Ls := #[.val (.int p1), .val (.int (p1 &&& (1 : Int32))), .val (.int (1 : Int32)), .val (.ref a_TRUE), .val (.ref a_FALSE)]) hown (own_w hw 8 rfl) (own_w hw 9 rfl) (own_w hw 10 rfl) (own_w hw 12 rfl) (own_w hw 11 rfl) (own_w hw 14 rfl) (own_w hw 13 rfl) (by decide) e7 E_FALSE (rm2 l Z a0 hw [] a_FALSE (0 : Int32) h0 n0 Z0 F_FALSE_ordinal) 0 (by decide) (by decide) (by decide) (by decide) (by rw [hml]; rfl) (lenOf pd_0 rfl) rfl (Nat.le_of_eq rfl) (hb hby at_54)
    have M8 := Fr.app M7 N8
    refine own_go st8 ?_
    show own_Go p e below _ T8 (mkF m 57 #[.val (.int p1), .val (.int (p1 &&& (1 : Int32))), .val (.int (1 : Int32)), .val (.ref a_TRUE), .val (.ref a_FALSE)] [(.int (0 : Int32))])
    refine own_go (fun t k => XS.iconst X8.here hx rfl (hb hby at_57) k) ?_
    show own_Go p e below _ T8 (mkF m 58 #[.val (.int p1), .val (.int (p1 &&& (1 : Int32))), .val (.int (1 : Int32)), .val (.ref a_TRUE), .val (.ref a_FALSE)] [(.int (1 : Int32)), (.int (0 : Int32))])
    refine own_go (fun t k => XS.iloadN X8.here hx rfl (hb hby at_58) rfl k) ?_
    show own_Go p e below _ T8 (mkF m 59 #[.val (.int p1), .val (.int (p1 &&& (1 : Int32))), .val (.int (1 : Int32)), .val (.ref a_TRUE), .val (.ref a_FALSE)] [(.int (p1 &&& (1 : Int32))), (.int (1 : Int32)), (.int (0 : Int32))])
    refine own_go (fun t k => XS.isub X8.here hx rfl (hb hby at_59) rfl k) ?_
    show own_Go p e below _ T8 (mkF m 60 #[.val (.int p1), .val (.int (p1 &&& (1 : Int32))), .val (.int (1 : Int32)), .val (.ref a_TRUE), .val (.ref a_FALSE)] [(.int ((1 : Int32) - (p1 &&& (1 : Int32)))), (.int (0 : Int32))])
    refine own_go (fun t k => XS.icmpNo X8.here hx rfl (hb hby at_60) rfl (XT.ii_ne_f (by rw [hone]; decide)) k) ?_
    show own_Go p e below _ T8 (mkF m 63 #[.val (.int p1), .val (.int (p1 &&& (1 : Int32))), .val (.int (1 : Int32)), .val (.ref a_TRUE), .val (.ref a_FALSE)] [])
    refine own_go (fun t k => XS.iconst X8.here hx rfl (hb hby at_63) k) ?_
    show own_Go p e below _ T8 (mkF m 64 #[.val (.int p1), .val (.int (p1 &&& (1 : Int32))), .val (.int (1 : Int32)), .val (.ref a_TRUE), .val (.ref a_FALSE)] [(.int (1 : Int32))])
    refine own_go (fun t k => XS.goto X8.here hx rfl (pc0 := 64) (pc' := 68) rfl (hb hby at_64) (by decide) (by decide) k) ?_
    show own_Go p e below _ T8 (mkF m 68 #[.val (.int p1), .val (.int (p1 &&& (1 : Int32))), .val (.int (1 : Int32)), .val (.ref a_TRUE), .val (.ref a_FALSE)] [(.int (1 : Int32))])
    refine own_retZ X8 hx hlk hret (hb hby at_68) (Or.inr rfl) (by decide) (by decide) ?_
    exact ⟨rfl, M8⟩
set_option maxRecDepth 65536 in
set_option maxHeartbeats 40000000 in
theorem comes_1 {Post : Tables → Env → Array Value → State → Outcome → State → Prop} (hpost : ∀ tb e args s v u, (limb_1_1.after args s (.returned v) u = true ∧ limb_1_2.after args s (.returned v) u = true ∧ True) → FrameEnd s (.returned v) u (Jvm.fieldLocs frame_1_writes args s ++ Jvm.arrayLocs frame_1_arrays args s ++ Jvm.staticLocs frame_1_statics s) 0 0 → Post tb e args s (.returned v) u) :
    ArmFor flags0 classFile x code maxLocals ret World_1 tables_1 room_1 Calls_1 rest_1 Pre_1 Post := by
  intro l hfl _ _ p e ha hc hk s m args below hf hA hF happ hP
  obtain ⟨hcalls, hrest, hpre⟩ := hP
  obtain ⟨-, -, -, hnamed, -, -, -, hat⟩ := (Spec.applies_iff hf).mp happ
  obtain ⟨hg, hn⟩ := and_e (Cond.before_iff.mp (show (Jvm.Cond.and given_1 narrow_1).before args s = true from hpre))
  obtain ⟨g1, g2⟩ := and_e hg
  obtain ⟨w0, rfl⟩ : ∃ w0 : Value, args = #[w0] := by
    have hs : args.size = 1 := by simpa [Cond.value, given_1] using g1
    obtain ⟨L⟩ := args
    match L, hs with
    | [w0], _ => exact ⟨w0, rfl⟩
  have hw := fun d (hd : d ∈ tables_1) => atoms_spec (ws := Jvm.Cond.code x code maxLocals ret :: tables_1) hat d (List.mem_cons_of_mem _ hd)
  have hfit : Fit s := fun {y c} hc i hi => by
    obtain ⟨ha, rfl⟩ := Array.getElem?_eq_some_iff.mp hc
    have q := List.all_eq_true.mp ((Array.all_eq_true_iff_forall_mem.mp hF) _ (Array.getElem_mem ha)) i (List.mem_range.mpr hi)
    simpa [Array.getElem?_eq_getElem hi] using q
  obtain ⟨i0, ei0⟩ := is_v g2
  obtain rfl : w0 = (.int i0) := Option.some.inj ei0
  obtain ⟨nq0, nr0⟩ := and_e hn
  obtain ⟨nq1, nr1⟩ := and_e nr0
  obtain ⟨nq2, nr2⟩ := and_e nr1
  obtain ⟨a_FALSE, ev_FALSE⟩ := exa_v nq0
  have E_FALSE := Exa.start ev_FALSE nq0
  have S_FALSE := Sta.start ev_FALSE (Or.inr ⟨(own_w hw 2 rfl), (own_w hw 5 rfl)⟩)
  obtain ⟨a_TRUE, ev_TRUE⟩ := exa_v nq1
  have E_TRUE := Exa.start ev_TRUE nq1
  have S_TRUE := Sta.start ev_TRUE (Or.inr ⟨(own_w hw 2 rfl), (own_w hw 7 rfl)⟩)
  have F_FALSE_ordinal := own_fld ev_FALSE (own_eqI nq2)
  have F_TRUE_ordinal := own_fld ev_TRUE (own_eqI nr2)
  obtain ⟨n, o, h1, h2, h3, _, L, rfl, ⟨rfl, N⟩, hq⟩ := rm0 l s _ hw tables_1 i0 a_FALSE a_TRUE s.heap s.heap.size (Nat.le_refl _) S_FALSE E_FALSE S_TRUE E_TRUE F_FALSE_ordinal F_TRUE_ordinal p e ha hc hk s m _ below hf ((Spec.applies_iff_loose hf).mp happ).1 ⟨rfl, State.Warmed39.refl s, rfl⟩ trivial
  refine ⟨n, _, h1, h2, h3, hpost _ _ _ _ _ _ ⟨Cond.after_iff.mpr rfl, Cond.after_iff.mpr (eq_i res_at (Term.int_eval (1)) rfl), trivial⟩ ⟨hq.1, hq.2.1, (hq.2.2.sift fun y hy => Or.inr (N y hy)).mono (by decide) (by decide)⟩⟩
theorem main_1_1 : Claimed_1_1 := comes_1 fun _ _ _ _ _ _ h hF => ⟨h.1, hF⟩
theorem main_1_2 : Claimed_1_2 := comes_1 fun _ _ _ _ _ _ h hF => ⟨h.2.1, hF⟩
end Jvm.Pilot.@@N@@
namespace Jvm.Pilot.@@N@@
open Jvm Jvm.ClassFile Sem Op Lib Jvm.Free Jvm.Stand Jvm.Pilot.@@N@@.Jvm.D
/-! MADE BY PROGRAM (witnessworld.py) out of the Statement's table words and the real class files: 13 classes; the members and pool entries that the words name. The judged class is class 1, her method 1. -/
namespace start1
open Jvm.ClassFile
def u (s : String) : CpInfo := .utf8 (stringToUtf16 s)
/-- a pool by its gaps: so many unusable entries, then the entry; so many at the end -/
def gap : Nat → List CpInfo → List CpInfo
  | 0, r => r
  | n + 1, r => .unusable :: gap n r
def poolList (es : List (Nat × CpInfo)) (last : Nat) : List CpInfo := es.foldr (fun e r => gap e.1 (e.2 :: r)) (gap last [])
def pool (es : List (Nat × CpInfo)) (last : Nat) : Array CpInfo := ⟨poolList es last⟩
def fileOf (pool : Array CpInfo) (this : Nat) (attrs : Array Attribute := #[]) (ms : Array MethodInfo := #[]) (fl : Nat := 33) (sup : Nat := 0) (ifs : Array Nat := #[]) (fds : Array FieldInfo := #[]) : ClassFile where
  minorVersion := 0
  majorVersion := 65
  constantPool := pool
  accessFlags := fl
  thisClass := this
  superClass := sup
  interfaces := ifs
  fields := fds
  methods := ms
  attributes := attrs
def plain (name : String) (sup : Option ClassId) : Class where
  name := name
  kind := .ordinary
  loader := none
  accessFlags := 33
  super := sup
  interfaces := #[]
  cf := none
  fields := #[]
  methods := #[]
  instanceTypes := #[]
  staticTypes := #[]
  resolved := #[]
  callSites := []
  init := .initialized
  statics := none
  mirror := none

def pool0 : Array CpInfo := pool [(5, u "<init>"), (0, u "()V"), (1, .class_ 10), (1, u "java/lang/Object")] 113

def k0m0 : Method := { name := "<init>", desc := "()V", sig := { parameters := [], returnType := none }, accessFlags := 1, code := none }
/-- java/lang/Object -/
def k0 : Class := { plain "java/lang/Object" none with
  accessFlags := 33
  interfaces := #[]
  cf := some (fileOf pool0 8 #[] #[{ accessFlags := 1, nameIndex := 5, descriptorIndex := 6, attributes := #[] }] 33 0 #[] #[])
  fields := #[]
  methods := #[k0m0]
  instanceTypes := #[]
  staticTypes := #[]
  resolved := Array.replicate 124 none
  statics := none }

def pool1 : Array CpInfo := pool [(2, .class_ 4), (1, u "java/lang/Object"), (0, u "<init>"), (0, u "()V"), (0, .methodref 8 9), (0, .class_ 10), (0, .nameAndType 11 12), (0, u "com/example/nautiloid/nautiloid/eval/BooleanValue"), (0, u "of"), (0, u "(Z)Lcom/example/nautiloid/nautiloid/eval/BooleanValue;"), (0, .methodref 8 14), (0, .nameAndType 15 16), (0, u "ordinal"), (0, u "()I"), (0, .class_ 18), (0, u "com/example/nautiloid/nautiloid/eval/BooleanValueOfPinLaw"), (2, u "law"), (0, u "(I)Z")] 3

def k1m0 : Method := { name := "<init>", desc := "()V", sig := { parameters := [], returnType := none }, accessFlags := 2, code := none }
def k1c1 : Code := { maxStack := 3, maxLocals := 5, code := code, exceptionTable := #[], attributes := #[] }
def k1m1 : Method := { name := "law", desc := "(I)Z", sig := { parameters := [.int], returnType := some .boolean }, accessFlags := 9, code := some k1c1 }
/-- com/example/nautiloid/nautiloid/eval/BooleanValueOfPinLaw -/
def k1 : Class := { plain "com/example/nautiloid/nautiloid/eval/BooleanValueOfPinLaw" (some 0) with
  accessFlags := 49
  interfaces := #[]
  cf := some (fileOf pool1 17 #[] #[{ accessFlags := 2, nameIndex := 5, descriptorIndex := 6, attributes := #[] }, { accessFlags := 9, nameIndex := 21, descriptorIndex := 22, attributes := #[] }] 49 2 #[] #[])
  fields := #[]
  methods := #[k1m0, k1m1]
  instanceTypes := #[]
  staticTypes := #[]
  resolved := Array.replicate 26 none
  statics := none }

def pool2 : Array CpInfo := pool [(1, .class_ 2), (0, u "java/lang/constant/Constable"), (0, .class_ 4), (0, u "java/lang/Object")] 6

/-- java/lang/constant/Constable -/
def k2 : Class := { plain "java/lang/constant/Constable" (some 0) with
  accessFlags := 1537
  interfaces := #[]
  cf := some (fileOf pool2 1 #[] #[] 1537 3 #[] #[])
  fields := #[]
  methods := #[]
  instanceTypes := #[]
  staticTypes := #[]
  resolved := Array.replicate 11 none
  statics := none }

def pool3 : Array CpInfo := pool [(1, .class_ 2), (0, u "java/lang/Comparable"), (0, .class_ 4), (0, u "java/lang/Object")] 7

/-- java/lang/Comparable -/
def k3 : Class := { plain "java/lang/Comparable" (some 0) with
  accessFlags := 1537
  interfaces := #[]
  cf := some (fileOf pool3 1 #[] #[] 1537 3 #[] #[])
  fields := #[]
  methods := #[]
  instanceTypes := #[]
  staticTypes := #[]
  resolved := Array.replicate 12 none
  statics := none }

def pool4 : Array CpInfo := pool [(1, .class_ 2), (0, u "java/io/Serializable"), (0, .class_ 4), (0, u "java/lang/Object")] 2

/-- java/io/Serializable -/
def k4 : Class := { plain "java/io/Serializable" (some 0) with
  accessFlags := 1537
  interfaces := #[]
  cf := some (fileOf pool4 1 #[] #[] 1537 3 #[] #[])
  fields := #[]
  methods := #[]
  instanceTypes := #[]
  staticTypes := #[]
  resolved := Array.replicate 7 none
  statics := none }

def pool5 : Array CpInfo := pool [(2, .class_ 4), (1, u "java/lang/Enum"), (0, u "name"), (0, u "Ljava/lang/String;"), (0, .fieldref 2 8), (0, .nameAndType 9 10), (0, u "ordinal"), (0, u "I"), (1, .class_ 14), (1, u "java/lang/Object"), (4, u "hash"), (86, .class_ 108), (1, u "java/lang/Enum$EnumDesc"), (2, .class_ 112), (0, u "java/lang/constant/Constable"), (0, .class_ 114), (0, u "java/lang/Comparable"), (0, .class_ 116), (0, u "java/io/Serializable"), (9, u "()I")] 77

def k5c0 : Code := { maxStack := 1, maxLocals := 1, code := jdk_37_method_2_code, exceptionTable := #[], attributes := #[] }
def k5m0 : Method := { name := "ordinal", desc := "()I", sig := { parameters := [], returnType := some .int }, accessFlags := 17, code := some k5c0 }
/-- java/lang/Enum -/
def k5 : Class := { plain "java/lang/Enum" (some 0) with
  accessFlags := 1057
  interfaces := #[2, 3, 4]
  cf := some (fileOf pool5 2 #[.nestMembers #[106]] #[{ accessFlags := 17, nameIndex := 9, descriptorIndex := 126, attributes := #[] }] 1057 12 #[111, 113, 115] #[{ accessFlags := 18, nameIndex := 5, descriptorIndex := 6, attributes := #[] }, { accessFlags := 18, nameIndex := 9, descriptorIndex := 10, attributes := #[] }, { accessFlags := 2, nameIndex := 19, descriptorIndex := 10, attributes := #[] }])
  fields := #[{ name := "name", type := (.object "java/lang/String"), accessFlags := 18, slot := 0, constantValue := 0 }, { name := "ordinal", type := .int, accessFlags := 18, slot := 1, constantValue := 0 }, { name := "hash", type := .int, accessFlags := 2, slot := 2, constantValue := 0 }]
  methods := #[k5m0]
  instanceTypes := #[(.object "java/lang/String"), .int, .int]
  staticTypes := #[]
  resolved := Array.replicate 204 none
  statics := none }

def pool6 : Array CpInfo := pool [(1, .class_ 2), (0, u "com/example/nautiloid/nautiloid/eval/Value"), (0, .class_ 4), (0, u "java/lang/Object")] 13

/-- com/example/nautiloid/nautiloid/eval/Value -/
def k6 : Class := { plain "com/example/nautiloid/nautiloid/eval/Value" (some 0) with
  accessFlags := 1537
  interfaces := #[]
  cf := some (fileOf pool6 1 #[] #[] 1537 3 #[] #[])
  fields := #[]
  methods := #[]
  instanceTypes := #[]
  staticTypes := #[]
  resolved := Array.replicate 18 none
  statics := none }

def pool7 : Array CpInfo := pool [(1, .class_ 2), (0, u "com/example/nautiloid/nautiloid/eval/BooleanValue"), (0, .fieldref 1 4), (0, .nameAndType 5 6), (0, u "FALSE"), (0, u "Lcom/example/nautiloid/nautiloid/eval/BooleanValue;"), (0, .fieldref 1 8), (0, .nameAndType 9 6), (0, u "TRUE"), (2, u "$VALUES"), (0, u "[Lcom/example/nautiloid/nautiloid/eval/BooleanValue;"), (6, .class_ 22), (1, u "java/lang/Enum"), (13, .class_ 37), (0, u "com/example/nautiloid/nautiloid/eval/Value"), (7, u "of"), (0, u "(Z)Lcom/example/nautiloid/nautiloid/eval/BooleanValue;")] 5

def k7c0 : Code := { maxStack := 1, maxLocals := 1, code := prog_33_method_4_code, exceptionTable := #[], attributes := #[] }
def k7m0 : Method := { name := "of", desc := "(Z)Lcom/example/nautiloid/nautiloid/eval/BooleanValue;", sig := { parameters := [.boolean], returnType := some (.object "com/example/nautiloid/nautiloid/eval/BooleanValue") }, accessFlags := 9, code := some k7c0 }
/-- com/example/nautiloid/nautiloid/eval/BooleanValue -/
def k7 : Class := { plain "com/example/nautiloid/nautiloid/eval/BooleanValue" (some 5) with
  accessFlags := 16433
  interfaces := #[6]
  cf := some (fileOf pool7 1 #[] #[{ accessFlags := 9, nameIndex := 45, descriptorIndex := 46, attributes := #[] }] 16433 20 #[36] #[{ accessFlags := 16409, nameIndex := 5, descriptorIndex := 6, attributes := #[] }, { accessFlags := 16409, nameIndex := 9, descriptorIndex := 6, attributes := #[] }, { accessFlags := 4122, nameIndex := 12, descriptorIndex := 13, attributes := #[] }])
  fields := #[{ name := "FALSE", type := (.object "com/example/nautiloid/nautiloid/eval/BooleanValue"), accessFlags := 16409, slot := 0, constantValue := 0 }, { name := "TRUE", type := (.object "com/example/nautiloid/nautiloid/eval/BooleanValue"), accessFlags := 16409, slot := 1, constantValue := 0 }, { name := "$VALUES", type := (.array (.object "com/example/nautiloid/nautiloid/eval/BooleanValue")), accessFlags := 4122, slot := 2, constantValue := 0 }]
  methods := #[k7m0]
  instanceTypes := #[(.object "java/lang/String"), .int, .int]
  staticTypes := #[(.object "com/example/nautiloid/nautiloid/eval/BooleanValue"), (.object "com/example/nautiloid/nautiloid/eval/BooleanValue"), (.array (.object "com/example/nautiloid/nautiloid/eval/BooleanValue"))]
  resolved := Array.replicate 52 none
  statics := some 0 }

def pool8 : Array CpInfo := pool [(1, u "java/lang/Cloneable"), (0, .class_ 1), (0, u "java/lang/Object"), (0, .class_ 3)] 3

/-- java/lang/Cloneable -/
def k8 : Class := { plain "java/lang/Cloneable" (some 0) with
  accessFlags := 1537
  interfaces := #[]
  cf := some (fileOf pool8 2 #[] #[] 1537 4 #[] #[])
  fields := #[]
  methods := #[]
  instanceTypes := #[]
  staticTypes := #[]
  resolved := Array.replicate 8 none
  statics := none }

/-- the primitive byte -/
def k9 : Class := { plain "byte" none with kind := .primitive 'B', accessFlags := 0x411 }
/-- [B -/
def k10 : Class := { plain "[B" (some 0) with kind := .array 9 .byte, interfaces := #[8, 4], accessFlags := 1041 }

/-- the primitive int -/
def k11 : Class := { plain "int" none with kind := .primitive 'I', accessFlags := 0x411 }
/-- [I -/
def k12 : Class := { plain "[I" (some 0) with kind := .array 11 .int, interfaces := #[8, 4], accessFlags := 1041 }

def heap : Heap := #[{ cls := 7, slots := #[.ref 1, .ref 2, .null], vm := .statics 7 },
  { cls := 7, slots := #[.null, .int 0, .int 0], vm := .none },
  { cls := 7, slots := #[.null, .int 1, .int 0], vm := .none }]
def classes : Array Class := #[k0, k1, k2, k3, k4, k5, k6, k7, k8, k9, k10, k11, k12]
def interned : List (Array UInt16 × Addr) := []
def slotsUsed : Nat := 9
def theMethod : MethodId := ⟨1, 1⟩
def args0 : Array Value := #[.int 5]
def aboutOver (below : List Frame) : State where
  vm := { classes := classes, interned := interned.toArray }
  heap := heap
  slotsUsed := slotsUsed
  threads := #[{ frames := .invoking theMethod args0 :: below }]
def below0 : List Frame := [.native { method := ⟨0, 0⟩, args := #[] }]
def about1 : State := aboutOver below0
def p0 : Program := .bare "" "" ""
def e0 : Env := launch0.env 0 0 0
theorem w_frames : about1.frames = Frame.invoking theMethod args0 :: below0 := rfl
set_option maxRecDepth 65536 in
theorem w_args : argsFit about1.vm theMethod args0 = true := by decide +kernel
set_option maxRecDepth 65536 in
theorem w_heap : heapFits about1 = true := by decide +kernel
set_option maxRecDepth 65536 in
theorem w_runnable : about1.curStatus? = some .runnable := by decide +kernel
set_option maxRecDepth 65536 in
theorem w_alone : about1.alone = true := by decide +kernel
set_option maxRecDepth 65536 in
theorem w_named : about1.methodNamed? x = some theMethod := by decide +kernel
set_option maxRecDepth 65536 in
theorem w_hears : about1.hears theMethod below0 = true := by decide +kernel
set_option maxRecDepth 65536 in
theorem w_ripe : about1.ripe theMethod args0 below0 = true := by decide +kernel
theorem w_running : about1.status = .running := rfl
set_option maxRecDepth 65536 in
theorem w_room : about1.hasRoom e0.platform room_1 = true :=
  launch0.hasRoom_least _ room_1 (by decide +kernel) (by decide +kernel) (by decide +kernel) (by decide +kernel) (by decide +kernel) (by decide +kernel)
theorem allAtoms_all (ts : List Jvm.Cond) (a : Array Jvm.Value) (st : Jvm.State) : (allAtoms ts).before a st = ts.all (fun c => c.before a st) := by
  induction ts with
  | nil => rfl
  | cons c t ih =>
    show (Jvm.Cond.and c (allAtoms t)).before a st = _
    rw [Jvm.Cond.before_and, ih, List.all_cons]
def words1 : List Jvm.Cond := Jvm.Cond.code x code maxLocals ret :: tables_1
/-- a 'code' word, met by the world's own term for the bytes: nothing is compared byte by byte -/
theorem code_word {y : MethodName} {bytes : ByteArray} {mx : Nat} {rt : Option FieldType} {a : Array Value} {s : State} {m : MethodId} {meth : Method} {c : Code} (h1 : s.methodNamed? y = some m) (h2 : s.vm.method? m = some meth) (h3 : meth.code = some c) (h4 : c.code = bytes)
    (h5 : (c.maxLocals == mx && c.exceptionTable.isEmpty && decide (c.maxStack ≤ mostOperands) && decide (meth.sig.returnType = rt) && !meth.locks && decide (parseMethodDescriptor y.desc = some meth.sig)) = true) : (Jvm.Cond.code y bytes mx rt).before a s = true := by
  simp only [Bool.and_eq_true, beq_iff_eq, Bool.not_eq_true', decide_eq_true_eq] at h5
  obtain ⟨⟨⟨⟨⟨g1, g2⟩, g3⟩, g4⟩, g5⟩, g6⟩ := h5
  simp [Cond.before, Cond.holds, Cond.value, h1, h2, h3, h4, g1, g2, g3, g4, g5, g6]
def isCode : Jvm.Cond → Bool
  | .code _ _ _ _ => true
  | _ => false
theorem all_split {L : List Jvm.Cond} {P : Jvm.Cond → Bool} (h1 : L.all (fun c => isCode c || P c) = true) (h2 : ∀ c ∈ L.filter isCode, P c = true) : L.all P = true := by
  refine List.all_eq_true.mpr fun c hc => ?_
  have h := List.all_eq_true.mp h1 c hc
  rcases Bool.eq_false_or_eq_true (isCode c) with hi | hi
  · exact h2 c (List.mem_filter.mpr ⟨hc, hi⟩)
  · simpa [hi] using h
set_option maxRecDepth 65536 in
theorem w_c0 : (Jvm.Cond.code x code maxLocals ret).before args0 about1 = true := code_word (m := ⟨1, 1⟩) (meth := k1m1) (c := k1c1) (by decide +kernel) rfl rfl rfl (by decide +kernel)
set_option maxRecDepth 65536 in
theorem w_c1 : (Jvm.Cond.code ({ cls := "com/example/nautiloid/nautiloid/eval/BooleanValue", name := "of", desc := "(Z)Lcom/example/nautiloid/nautiloid/eval/BooleanValue;" } : Jvm.MethodName) prog_33_method_4_code (1 : Nat) (Option.some (Jvm.ClassFile.FieldType.object "com/example/nautiloid/nautiloid/eval/BooleanValue"))).before args0 about1 = true := code_word (m := ⟨7, 0⟩) (meth := k7m0) (c := k7c0) (by decide +kernel) rfl rfl rfl (by decide +kernel)
set_option maxRecDepth 65536 in
theorem w_c2 : (Jvm.Cond.code ({ cls := "java/lang/Enum", name := "ordinal", desc := "()I" } : Jvm.MethodName) jdk_37_method_2_code (1 : Nat) (Option.some Jvm.ClassFile.FieldType.int)).before args0 about1 = true := code_word (m := ⟨5, 0⟩) (meth := k5m0) (c := k5c0) (by decide +kernel) rfl rfl rfl (by decide +kernel)
def codes1 : List Jvm.Cond := [Jvm.Cond.code x code maxLocals ret, Jvm.Cond.code ({ cls := "com/example/nautiloid/nautiloid/eval/BooleanValue", name := "of", desc := "(Z)Lcom/example/nautiloid/nautiloid/eval/BooleanValue;" } : Jvm.MethodName) prog_33_method_4_code (1 : Nat) (Option.some (Jvm.ClassFile.FieldType.object "com/example/nautiloid/nautiloid/eval/BooleanValue")), Jvm.Cond.code ({ cls := "java/lang/Enum", name := "ordinal", desc := "()I" } : Jvm.MethodName) jdk_37_method_2_code (1 : Nat) (Option.some Jvm.ClassFile.FieldType.int)]
set_option maxRecDepth 65536 in
theorem codes_eq : words1.filter isCode = codes1 := rfl
theorem w_codes : ∀ c ∈ words1.filter isCode, c.before args0 about1 = true := by
  rw [codes_eq]
  intro c hc
  simp only [codes1, List.mem_cons, List.not_mem_nil, or_false] at hc
  rcases hc with rfl | rfl | rfl
  · exact w_c0
  · exact w_c1
  · exact w_c2
set_option maxRecDepth 65536 in
theorem w_t1 : words1.all (fun c => isCode c || c.before args0 about1) = true := by decide +kernel
theorem w_tables : (allAtoms (Jvm.Cond.code x code maxLocals ret :: tables_1)).before args0 about1 = true := by
  rw [allAtoms_all]
  show words1.all (fun c => c.before args0 about1) = true
  refine all_split ?_ w_codes
  rw [w_t1]
set_option maxRecDepth 65536 in
theorem w_case : (Jvm.Cond.and given_1 narrow_1).before args0 about1 = true := by decide +kernel
theorem w_applies : (headSpec (Jvm.Cond.code x code maxLocals ret :: tables_1) room_1).applies x e0.platform about1 = true :=
  (Spec.applies_iff w_frames).mpr ⟨w_running, w_runnable, w_alone, w_named, w_hears, w_ripe, w_room, w_tables⟩
theorem atStart : AtStart classFile x code maxLocals ret World_1 tables_1 room_1 Calls_1 rest_1 Pre_1 launch0 p0 e0 about1 theMethod args0 below0 :=
  ⟨lists_1, trivial, launch0.admits_env _ _ _, launch0.least_env, fairChoices_fair.cas, fairChoices_fair.clock, w_frames, w_args, w_heap, w_applies, trivial, trivial, w_case⟩
end start1
theorem witness_1 : WitnessClaimed_1 := ⟨start1.p0, start1.e0, start1.about1, start1.theMethod, start1.args0, start1.below0, start1.atStart⟩
end Jvm.Pilot.@@N@@
