import JvmDerived
import JvmDerived.Pilot.@@N@@Statement
import JvmDerived.Pilot.@@N@@Code
set_option linter.unusedVariables false
set_option linter.unusedSimpArgs false
namespace Jvm.Pilot.@@N@@
open Jvm Jvm.ClassFile Sem Op Lib Jvm.Free Jvm.Stand Jvm.LawKit Jvm.RoadKit Bundle Jvm.Pilot.@@N@@.Jvm.D
section Own
variable {p : Program} {l : Launch} {e : Env} {R : Room} {s : State} {m : MethodId} {args : Array Value} {below : List Frame} {meth : Method} {c : Code} {T : State} {locs : List Loc} {cells slots : Nat} {Z : State} {a0 : Array Value} {K : State → Outcome → Prop} {pc pc' : Nat} {Ls : Array Slot} {st : List Value} {h : Heap}
/-- from here the run ends, and what is left is as K says -/
def own_Go (p : Program) (e : Env) (below : List Frame) (K : State → Outcome → Prop) (T : State) (f : JFrame) : Prop :=
  ∃ s₂ o, Steps p.tables e below (T.setTop f) s₂ ∧ s₂.status = .running ∧ Ended s₂ below o ∧ K s₂ o
def own_K (Q : Option Value → Heap → List Loc → Prop) (s : State) (cs ss : Nat) : State → Outcome → Prop := fun u o => ∃ v L, o = .returned v ∧ Q v u.heap L ∧ FrameEnd s o u L cs ss
theorem own_go {T' : State} {f f' : JFrame} (h : ∀ t, Steps p.tables e below (T'.setTop f') t → Steps p.tables e below (T.setTop f) t) (k : own_Go p e below K T' f') : own_Go p e below K T f := by
  obtain ⟨a, b, c, d⟩ := k
  exact ⟨a, b, h _ c, d⟩
theorem own_w {tb : List Jvm.Cond} (hw : ∀ d ∈ tb, d.before a0 Z = true) {d : Jvm.Cond} (k : Nat) (h : tb[k]? = some d) : d.before a0 Z = true := hw _ (List.mem_of_getElem? h)
/-- a method's contract: called with these arguments over this heap it returns, and Q says what it leaves -/
abbrev own_Met (l : Launch) (Z : State) (y : MethodName) (bytes : ByteArray) (mx : Nat) (rt : Option FieldType) (ws : List Jvm.Cond) (rm : Room) (as : Array Value) (h0 : Heap) (Q : Option Value → Heap → List Loc → Prop) : Prop :=
  MetFree l y (head1 (Jvm.Cond.code y bytes mx rt :: ws) rm) (fun a U => a = as ∧ Z.Warmed39 U.vm ∧ U.heap = h0) (fun _ _ _ _ _ => True) (fun _ U o U' => ∃ v L, o = .returned v ∧ Q v U'.heap L ∧ FrameEnd U o U' L rm.cells rm.slots)
theorem own_body {y : MethodName} {bytes : ByteArray} {mx : Nat} {rt : Option FieldType} {ws : List Jvm.Cond} {rm : Room} {as : Array Value} {h0 : Heap} {Q : Option Value → Heap → List Loc → Prop} (hp : plainFor y = true)
    (body : ∀ (p : Program) (e : Env) (s : State) (m : MethodId) (below : List Frame) (meth : Method) (c : Code) (T : State), Stand p l e rm s m as below meth c T [] 0 0 → p.tables.exec = Jvm.exec → c.code = bytes → c.maxLocals = mx → meth.sig.returnType = rt → meth.locks = false → Z.Warmed39 s.vm → s.vm.findClass y.cls = some m.cls → meth.name = y.name → T.heap = h0 →
      own_Go p e below (own_K Q s rm.cells rm.slots) T (entryFrame m as mx)) : own_Met l Z y bytes mx rt ws rm as h0 Q := by
  refine MetFree.of_bodySF hp hisR ?_
  intro p e s m args below meth c s₁ Bd hml0 hP hK
  obtain ⟨rfl, hZ, hh⟩ := hP
  exact body p e s m below meth c s₁ (Stand.of_body Bd) Bd.exec Bd.bytes hml0 Bd.returns Bd.notSynchronized hZ (findClass_of_methodNamed Bd.named) (name_of_methodNamed Bd.named Bd.method).1 (by rw [← hh, Bd.state]; rfl)
theorem own_ret (X : Stand p l e R s m args below meth c T locs cells slots) (hx : p.tables.exec = Jvm.exec) {Q : Option Value → Heap → List Loc → Prop} {cs ss : Nat} {w : Value} {t : FieldType} {i : Instr} {rest : List Value} (hlk : meth.locks = false) (hret : meth.sig.returnType = some t) (hd : decode c.code pc = .ok (i, 1)) (hn : narrow t w = w)
    (hi : (i = .ireturn ∧ (t = .int ∨ t = .boolean ∨ t = .byte ∨ t = .char ∨ t = .short) ∧ ∃ z, w = .int z) ∨ (i = .lreturn ∧ t = .long ∧ ∃ z, w = .long z) ∨ (i = .dreturn ∧ t = .double ∧ ∃ z, w = .double z) ∨ (i = .freturn ∧ t = .float ∧ ∃ z, w = .float z) ∨ (i = .areturn ∧ t.isReference = true ∧ w.isRef = true))
    (hc : cells ≤ cs) (hs : slots ≤ ss) (hq : Q (some w) T.heap locs) : own_Go p e below (own_K Q s cs ss) T (mkF m pc Ls (w :: rest)) := by
  obtain ⟨fs, hr, hrun, hended, hW, hsame⟩ := X.leave (v := some w) (fun h => by rw [hret] at h; cases h) hlk
  exact ⟨_, _, retOut X hx hret hn hi hd hr, hrun, hended, _, _, rfl, hq, ⟨_, rfl⟩, hW, hsame.mono hc hs⟩
theorem own_retI (X : Stand p l e R s m args below meth c T locs cells slots) (hx : p.tables.exec = Jvm.exec) {Q : Option Value → Heap → List Loc → Prop} {cs ss : Nat} {z : Int32} {rest : List Value} (hlk : meth.locks = false) (hret : meth.sig.returnType = some .int) (hd : decode c.code pc = .ok (.ireturn, 1)) (hc : cells ≤ cs) (hs : slots ≤ ss) (hq : Q (some (.int z)) T.heap locs) : own_Go p e below (own_K Q s cs ss) T (mkF m pc Ls (.int z :: rest)) :=
  own_ret X hx hlk hret hd rfl (Or.inl ⟨rfl, Or.inl rfl, z, rfl⟩) hc hs hq
theorem own_retZ (X : Stand p l e R s m args below meth c T locs cells slots) (hx : p.tables.exec = Jvm.exec) {Q : Option Value → Heap → List Loc → Prop} {cs ss : Nat} {z : Int32} {rest : List Value} (hlk : meth.locks = false) (hret : meth.sig.returnType = some .boolean) (hd : decode c.code pc = .ok (.ireturn, 1)) (hn : z = 0 ∨ z = 1) (hc : cells ≤ cs) (hs : slots ≤ ss) (hq : Q (some (.int z)) T.heap locs) : own_Go p e below (own_K Q s cs ss) T (mkF m pc Ls (.int z :: rest)) :=
  own_ret X hx hlk hret hd (by rcases hn with rfl | rfl <;> rfl) (Or.inl ⟨rfl, Or.inr (Or.inl rfl), z, rfl⟩) hc hs hq
theorem own_retJ (X : Stand p l e R s m args below meth c T locs cells slots) (hx : p.tables.exec = Jvm.exec) {Q : Option Value → Heap → List Loc → Prop} {cs ss : Nat} {z : Int64} {rest : List Value} (hlk : meth.locks = false) (hret : meth.sig.returnType = some .long) (hd : decode c.code pc = .ok (.lreturn, 1)) (hc : cells ≤ cs) (hs : slots ≤ ss) (hq : Q (some (.long z)) T.heap locs) : own_Go p e below (own_K Q s cs ss) T (mkF m pc Ls (.long z :: rest)) :=
  own_ret X hx hlk hret hd rfl (Or.inr (Or.inl ⟨rfl, rfl, z, rfl⟩)) hc hs hq
theorem own_retA (X : Stand p l e R s m args below meth c T locs cells slots) (hx : p.tables.exec = Jvm.exec) {Q : Option Value → Heap → List Loc → Prop} {cs ss : Nat} {w : Value} {t : FieldType} {rest : List Value} (hlk : meth.locks = false) (hret : meth.sig.returnType = some t) (hd : decode c.code pc = .ok (.areturn, 1)) (ht : t.isReference = true) (hv : w.isRef = true) (hc : cells ≤ cs) (hs : slots ≤ ss) (hq : Q (some w) T.heap locs) : own_Go p e below (own_K Q s cs ss) T (mkF m pc Ls (w :: rest)) :=
  own_ret X hx hlk hret hd (by rcases ref_cases hv with rfl | ⟨a, rfl⟩ <;> cases t <;> first | rfl | cases ht) (Or.inr (Or.inr (Or.inr (Or.inr ⟨rfl, ht, hv⟩)))) hc hs hq
theorem own_retV (X : Stand p l e R s m args below meth c T locs cells slots) (hx : p.tables.exec = Jvm.exec) {Q : Option Value → Heap → List Loc → Prop} {cs ss : Nat} (hlk : meth.locks = false) (hret : meth.sig.returnType = none) (hd : decode c.code pc = .ok (.return_, 1)) (hc : cells ≤ cs) (hs : slots ≤ ss) (hq : Q none T.heap locs) : own_Go p e below (own_K Q s cs ss) T (mkF m pc Ls []) := by
  obtain ⟨fs, hr, hrun, hended, hW, hsame⟩ := X.leave (v := none) (fun _ => rfl) hlk
  exact ⟨_, _, X.returnOut hx hret hd hr, hrun, hended, _, _, rfl, hq, ⟨_, rfl⟩, hW, hsame.mono hc hs⟩
/-- the two roads of a conditional branch -/
theorem own_if (X : Stand p l e R s m args below meth c T locs cells slots) (hx : p.tables.exec = Jvm.exec) {cd : ClassFile.Cond} {o : Int} {z : Int32} {rest : List Value} (hd : decode c.code pc = .ok (.ifCond cd o, 3)) (ho : 0 ≤ (pc : Int) + o) (hp : ((pc : Int) + o).toNat = pc') {pc1 : Nat} (hp1 : pc + 3 = pc1) (P : Prop) (h1 : P → ifCond.holds cd z = true) (h2 : ¬ P → ifCond.holds cd z = false)
    (kt : P → own_Go p e below K T (mkF m pc' Ls rest)) (kf : ¬ P → own_Go p e below K T (mkF m pc1 Ls rest)) : own_Go p e below K T (mkF m pc Ls (.int z :: rest)) := by
  subst hp1
  by_cases q : P
  · exact own_go (fun t k => XS.ifYes X.here hx (g := mkF m pc Ls (.int z :: rest)) rfl (pc0 := pc) (pc' := pc') rfl hd rfl (h1 q) ho hp k) (kt q)
  · exact own_go (fun t k => XS.ifNo X.here hx (g := mkF m pc Ls (.int z :: rest)) rfl hd rfl (h2 q) k) (kf q)
theorem own_icmp (X : Stand p l e R s m args below meth c T locs cells slots) (hx : p.tables.exec = Jvm.exec) {cd : ClassFile.Cond} {o : Int} {y z : Int32} {rest : List Value} (hd : decode c.code pc = .ok (.if_icmp cd o, 3)) (ho : 0 ≤ (pc : Int) + o) (hp : ((pc : Int) + o).toNat = pc') {pc1 : Nat} (hp1 : pc + 3 = pc1) (P : Prop) (h1 : P → if_icmp.holds cd y z = true) (h2 : ¬ P → if_icmp.holds cd y z = false)
    (kt : P → own_Go p e below K T (mkF m pc' Ls rest)) (kf : ¬ P → own_Go p e below K T (mkF m pc1 Ls rest)) : own_Go p e below K T (mkF m pc Ls (.int z :: .int y :: rest)) := by
  subst hp1
  by_cases q : P
  · exact own_go (fun t k => XS.icmpYes X.here hx (g := mkF m pc Ls (.int z :: .int y :: rest)) rfl (pc0 := pc) (pc' := pc') rfl hd rfl (h1 q) ho hp k) (kt q)
  · exact own_go (fun t k => XS.icmpNo X.here hx (g := mkF m pc Ls (.int z :: .int y :: rest)) rfl hd rfl (h2 q) k) (kf q)
theorem own_callS (X : Stand p l e R s m args below meth c T locs cells slots) (hx : p.tables.exec = Jvm.exec) (hZ : Z.Warmed39 s.vm) {own : String} {index : Nat} {y : MethodName} {bytes : ByteArray} {mx : Nat} {rt : Option FieldType} {rm : Room} {argsL rest : List Value} {Q : Option Value → Heap → List Loc → Prop}
    (hown : s.vm.findClass own = some m.cls) (w1 : (Jvm.Cond.methodLink own index y).before a0 Z = true) (w2 : (Jvm.Cond.static y).before a0 Z = true) (w3 : (Jvm.Cond.initialized y.cls).before a0 Z = true) (w4 : (Jvm.Cond.code y bytes mx rt).before a0 Z = true) (hy : y.cls ≠ "java/lang/invoke/MethodHandle" ∧ y.cls ≠ "java/lang/invoke/VarHandle")
    (eT : T.heap = h) (hM : own_Met l Z y bytes mx rt [] rm argsL.toArray h Q) (W : Nat) (hf : rm.frames + 1 ≤ R.frames) (hl : W + (mx + 11) + rm.locals ≤ R.locals) (hcl : cells + rm.cells ≤ R.cells) (hsl : slots + rm.slots ≤ R.slots) (hsz : Ls.size = c.maxLocals) (hlen : ∀ sig, parseMethodDescriptor y.desc = some sig → argsL.length = sig.parameters.length)
    (hst : st = argsL.reverse ++ rest) (hW : (rest.map fun v => v.category).sum ≤ W) (hd : decode c.code pc = .ok (.invokestatic index, 3)) :
    ∃ v T' L, Stand p l e R s m args below meth c T' (locs ++ L) (cells + rm.cells) (slots + rm.slots) ∧ Q v T'.heap L ∧ ∀ t, Steps p.tables e below (T'.setTop (mkF m (pc + 3) Ls (v.toList ++ rest))) t → Steps p.tables e below (T.setTop (mkF m pc Ls st)) t := by
  obtain ⟨v, vm1, ⟨T', L', k', n'⟩, -, X', ⟨L, hQ, l1, l2, l3⟩, stp⟩ := Jvm.LawKit.callS X hx (y := y) hown (mvT hZ w1) (mvT hZ w2) (mvT hZ w3) (mvT hZ w4) hy (backOf (W := W) hM hZ w4 w3 hf hl) (g := mkF m pc Ls st) rfl hsz (argsL := argsL) (rest := rest) hlen hst (by show 2 * 0 + _ ≤ _; omega) hd (fun _ _ => ⟨rfl, eT, hcl, hsl⟩)
  dsimp only [Pt.U, Pt.locs, Pt.cells, Pt.slots] at X' l1 l2 l3 stp hQ
  subst l1 l2 l3
  exact ⟨v, T', L, X', hQ, stp⟩
theorem own_callV (X : Stand p l e R s m args below meth c T locs cells slots) (hx : p.tables.exec = Jvm.exec) (hZ : Z.Warmed39 s.vm) {own C : String} {index : Nat} {y z : MethodName} {bytes : ByteArray} {mx : Nat} {rt : Option FieldType} {rm : Room} {b : Addr} {argsL rest : List Value} {Q : Option Value → Heap → List Loc → Prop}
    (hown : s.vm.findClass own = some m.cls) (w1 : (Jvm.Cond.methodLink own index y).before a0 Z = true) (w2 : (Jvm.Cond.declares y).before a0 Z = true) (w3 : (Jvm.Cond.selects C y z).before a0 Z = true) (hnf : NotFace s y) (w4 : (Jvm.Cond.instanceMethod z).before a0 Z = true) (w5 : (Jvm.Cond.code z bytes mx rt).before a0 Z = true) (w6 : (Jvm.Cond.initialized z.cls).before a0 Z = true) (hy : y.cls ≠ "java/lang/invoke/MethodHandle" ∧ y.cls ≠ "java/lang/invoke/VarHandle")
    (eT : T.heap = h) (E : Exa Z h b C) (hM : own_Met l Z z bytes mx rt [] rm (.ref b :: argsL).toArray h Q) (W : Nat) (hf : rm.frames + 1 ≤ R.frames) (hl : W + (mx + 11) + rm.locals ≤ R.locals) (hcl : cells + rm.cells ≤ R.cells) (hsl : slots + rm.slots ≤ R.slots) (hsz : Ls.size = c.maxLocals) (hlen : ∀ sig, parseMethodDescriptor y.desc = some sig → argsL.length = sig.parameters.length)
    (hst : st = argsL.reverse ++ .ref b :: rest) (hW : (rest.map fun v => v.category).sum ≤ W) (hd : decode c.code pc = .ok (.invokevirtual index, 3)) :
    ∃ v T' L, Stand p l e R s m args below meth c T' (locs ++ L) (cells + rm.cells) (slots + rm.slots) ∧ Q v T'.heap L ∧ ∀ t, Steps p.tables e below (T'.setTop (mkF m (pc + 3) Ls (v.toList ++ rest))) t → Steps p.tables e below (T.setTop (mkF m pc Ls st)) t := by
  obtain ⟨cq, kq, q1, q2, q3⟩ := isOf hZ eT E
  obtain ⟨v, vm1, ⟨T', L', k', n'⟩, -, X', ⟨L, hQ, l1, l2, l3⟩, stp⟩ := X.virtualBack hx (y := y) (z := z) hown (mvT hZ w1) (mvT hZ w2) hnf (mvT hZ w3) (mvT hZ w4) hy (backOf (W := W) hM hZ w5 w6 hf hl) q1 q3 (g := mkF m pc Ls st) rfl hsz (Steps.refl _) (argsL := argsL) (rest := rest) hlen hst (by show 2 * 0 + _ ≤ _; omega) hd (fun _ _ => ⟨rfl, eT, hcl, hsl⟩)
  dsimp only [Pt.U, Pt.locs, Pt.cells, Pt.slots] at X' l1 l2 l3 stp hQ
  subst l1 l2 l3
  exact ⟨v, T', L, X', hQ, fun t k => stp.trans k⟩
theorem own_callU (X : Stand p l e R s m args below meth c T locs cells slots) (hx : p.tables.exec = Jvm.exec) (hZ : Z.Warmed39 s.vm) {own C owner : String} {index : Nat} {y z : MethodName} {bytes : ByteArray} {mx : Nat} {rt : Option FieldType} {rm : Room} {b : Addr} {argsL rest : List Value} {Q : Option Value → Heap → List Loc → Prop}
    (hown : s.vm.findClass own = some m.cls) (w1 : (Jvm.Cond.methodLink own index y).before a0 Z = true) (w2 : (Jvm.Cond.sameMethod y.cls owner y.name y.desc).before a0 Z = true) (w2' : (Jvm.Cond.declares ⟨owner, y.name, y.desc⟩).before a0 Z = true) (w3 : (Jvm.Cond.selects C y z).before a0 Z = true) (w4 : (Jvm.Cond.instanceMethod z).before a0 Z = true) (w5 : (Jvm.Cond.code z bytes mx rt).before a0 Z = true) (w6 : (Jvm.Cond.initialized z.cls).before a0 Z = true) (hy : owner ≠ "java/lang/invoke/MethodHandle" ∧ owner ≠ "java/lang/invoke/VarHandle")
    (eT : T.heap = h) (E : Exa Z h b C) (hM : own_Met l Z z bytes mx rt [] rm (.ref b :: argsL).toArray h Q) (W : Nat) (hf : rm.frames + 1 ≤ R.frames) (hl : W + (mx + 11) + rm.locals ≤ R.locals) (hcl : cells + rm.cells ≤ R.cells) (hsl : slots + rm.slots ≤ R.slots) (hsz : Ls.size = c.maxLocals) (hlen : ∀ sig, parseMethodDescriptor y.desc = some sig → argsL.length = sig.parameters.length)
    (hst : st = argsL.reverse ++ .ref b :: rest) (hW : (rest.map fun v => v.category).sum ≤ W) (hd : decode c.code pc = .ok (.invokevirtual index, 3)) :
    ∃ v T' L, Stand p l e R s m args below meth c T' (locs ++ L) (cells + rm.cells) (slots + rm.slots) ∧ Q v T'.heap L ∧ ∀ t, Steps p.tables e below (T'.setTop (mkF m (pc + 3) Ls (v.toList ++ rest))) t → Steps p.tables e below (T.setTop (mkF m pc Ls st)) t := by
  obtain ⟨cq, kq, q1, q2, q3⟩ := isOf hZ eT E
  obtain ⟨v, vm1, ⟨T', L', k', n'⟩, -, X', ⟨L, hQ, l1, l2, l3⟩, stp⟩ := X.virtualBackUp hx (x := y) (y := z) hown (mvT hZ w1) (mvT hZ w2) (mvT hZ w2') hy (mvT hZ w3) (mvT hZ w4) (backOf (W := W) hM hZ w5 w6 hf hl) q1 q3 (g := mkF m pc Ls st) rfl hsz (Steps.refl _) (argsL := argsL) (rest := rest) hlen hst (by show 2 * 0 + _ ≤ _; omega) hd (fun _ _ => ⟨rfl, eT, hcl, hsl⟩)
  dsimp only [Pt.U, Pt.locs, Pt.cells, Pt.slots] at X' l1 l2 l3 stp hQ
  subst l1 l2 l3
  exact ⟨v, T', L, X', hQ, fun t k => stp.trans k⟩
theorem own_callC (X : Stand p l e R s m args below meth c T locs cells slots) (hx : p.tables.exec = Jvm.exec) (hZ : Z.Warmed39 s.vm) {own : String} {index : Nat} {y : MethodName} {bytes : ByteArray} {mx : Nat} {rm : Room} {b : Addr} {argsL rest : List Value} {Q : Option Value → Heap → List Loc → Prop}
    (hy1 : y.name = "<init>") (hown : s.vm.findClass own = some m.cls) (w1 : (Jvm.Cond.methodLink own index y).before a0 Z = true) (w4 : (Jvm.Cond.instanceMethod y).before a0 Z = true) (w5 : (Jvm.Cond.code y bytes mx none).before a0 Z = true) (w6 : (Jvm.Cond.initialized y.cls).before a0 Z = true) (hy : y.cls ≠ "java/lang/invoke/MethodHandle" ∧ y.cls ≠ "java/lang/invoke/VarHandle")
    (eT : T.heap = h) (hM : own_Met l Z y bytes mx none [] rm (.ref b :: argsL).toArray h Q) (W : Nat) (hf : rm.frames + 1 ≤ R.frames) (hl : W + (mx + 11) + rm.locals ≤ R.locals) (hcl : cells + rm.cells ≤ R.cells) (hsl : slots + rm.slots ≤ R.slots) (hsz : Ls.size = c.maxLocals) (hlen : ∀ sig, parseMethodDescriptor y.desc = some sig → argsL.length = sig.parameters.length)
    (hst : st = argsL.reverse ++ .ref b :: rest) (hW : (rest.map fun v => v.category).sum ≤ W) (hd : decode c.code pc = .ok (.invokespecial index, 3)) :
    ∃ v T' L, Stand p l e R s m args below meth c T' (locs ++ L) (cells + rm.cells) (slots + rm.slots) ∧ Q v T'.heap L ∧ ∀ t, Steps p.tables e below (T'.setTop (mkF m (pc + 3) Ls (v.toList ++ rest))) t → Steps p.tables e below (T.setTop (mkF m pc Ls st)) t := by
  obtain ⟨v, vm1, ⟨T', L', k', n'⟩, -, X', ⟨L, hQ, l1, l2, l3⟩, stp⟩ := X.specialBack hx (y := y) hy1 hown (mvT hZ w1) (mvT hZ w4) (mvT hZ w5) hy (backOf (W := W) hM hZ w5 w6 hf hl) (g := mkF m pc Ls st) rfl hsz (Steps.refl _) (a := b) (argsL := argsL) (rest := rest) hlen hst (by show 2 * 0 + _ ≤ _; omega) hd (fun _ _ => ⟨rfl, eT, hcl, hsl⟩)
  dsimp only [Pt.U, Pt.locs, Pt.cells, Pt.slots] at X' l1 l2 l3 stp hQ
  subst l1 l2 l3
  exact ⟨v, T', L, X', hQ, fun t k => stp.trans k⟩
end Own
section OwnStart
variable {Z : State} {args : Array Value} {t u : Term} {a : Addr} {C n d : String}
theorem own_eqI {k : Int32} (h : (Jvm.Cond.eq t (.int k)).value args Z none Z [] = some true) : t.eval args Z none [] Z = some (.int k) := by
  simp only [Cond.value, Term.eval] at h
  cases ht : t.eval args Z none [] Z with
  | none => simp [ht] at h
  | some x => cases x <;> simp [ht] at h ⊢; exact h
theorem own_eqJ {k : Int64} (h : (Jvm.Cond.eq t (.long k)).value args Z none Z [] = some true) : t.eval args Z none [] Z = some (.long k) := by
  simp only [Cond.value, Term.eval] at h
  cases ht : t.eval args Z none [] Z with
  | none => simp [ht] at h
  | some x => cases x <;> simp [ht] at h ⊢; exact h
theorem own_fld {v : Value} (ev : t.eval args Z none [] Z = some (.ref a)) (h : (Term.field t C n d).eval args Z none [] Z = some v) : Fld Z Z.heap a C n d v := Fld.start ((fld_at ev).symm.trans h)
theorem own_eqR {b : Addr} (ha : t.eval args Z none [] Z = some (.ref b)) (h : (Jvm.Cond.eq u t).value args Z none Z [] = some true) : u.eval args Z none [] Z = some (.ref b) := by
  cases hu : u.eval args Z none [] Z with
  | none => simp [Cond.value, hu] at h
  | some x => cases x <;> simp [Cond.value, hu, ha] at h ⊢; exact h
theorem own_lenOf {cl : Cell} {ty : FieldType} {k : Int32} (ev : t.eval args Z none [] Z = some (.ref a)) (A : Arr Z Z.heap a cl ty) (h : (Term.length t).eval args Z none [] Z = some (.int k)) : cl.slots.size < 2 ^ 31 ∧ cl.slots.size.toInt32 = k := by
  have q := A.fin (Vm.Alike.refl _)
  by_cases hl : cl.slots.size < 2 ^ 31
  · rw [len_f ev q hl] at h
    exact ⟨hl, by cases h; rfl⟩
  · simp [Term.eval, ev, q, hl] at h
end OwnStart
section OwnArr
variable {p : Program} {l : Launch} {e : Env} {R : Room} {s : State} {m : MethodId} {args : Array Value} {below : List Frame} {meth : Method} {c : Code} {T : State} {locs : List Loc} {cells slots : Nat} {Z : State} {a0 : Array Value} {K : State → Outcome → Prop} {pc pc' : Nat} {Ls : Array Slot} {rest : List Value} {h : Heap}
theorem own_oldge {n0 : Nat} (O : Old Z n0 h) : n0 ≤ h.size := O.1 ▸ O.2.1
theorem own_newR (X : Stand p l e R s m args below meth c T locs cells slots) (hx : p.tables.exec = Jvm.exec) (hZ : Z.Warmed39 s.vm) {own C : String} {index : Nat} (hown : s.vm.findClass own = some m.cls) (w1 : (Jvm.Cond.classLink own index C).before a0 Z = true) (w2 : (Jvm.Cond.arrayOver (.object C)).before a0 Z = true) (eT : T.heap = h)
    (hd : decode c.code pc = .ok (.anewarray index, 3)) {n : Int32} (hn : ¬ n < 0) (cap : Nat) (hcap : n.toNatClampNeg ≤ cap) (hb : cap * 8 ≤ 536870912) (hc : cells + 1 ≤ R.cells) (hl : slots + cap ≤ R.slots) :
    ∃ T' h' b kA, Stand p l e R s m args below meth c T' locs (cells + 1) (slots + cap) ∧ T'.heap = h' ∧ Ext h h' ∧ b = h.size ∧ Arv Z h' b kA (.object C) n (List.replicate cap .null) .null ∧ Ovr Z kA C ∧ ∀ t, Steps p.tables e below (T'.setTop (mkF m (pc + 3) Ls (.ref b :: rest))) t → Steps p.tables e below (T.setTop (mkF m pc Ls (.int n :: rest))) t := by
  obtain ⟨T', h', kA, X', e', E', A', O', st'⟩ := newR X hx hZ hown w1 w2 eT (g := mkF m pc Ls (.int n :: rest)) rfl hd rfl hn hcap hb hc hl
  exact ⟨T', h', h.size, kA, X', e', E', rfl, (Arv.new A' hn).pad (pad_rep [] _ cap), O', st'⟩
theorem own_stR (X : Stand p l e R s m args below meth c T locs cells slots) (hx : p.tables.exec = Jvm.exec) (hZ : Z.Warmed39 s.vm) (eT : T.heap = h) {b y : Addr} {kA : ClassId} {C : String} {n j : Int32} {vs vs' : List Value} (V : Arv Z h b kA (.object C) n vs .null) (O : Ovr Z kA C) (I : Ins Z h y C true) (hj : ¬ j < 0 ∧ j < n) (i : Nat) (hi : j.toNatClampNeg = i) (hil : i < vs.length) (hvs : vs.set i (.ref y) = vs') {n0 : Nat} (N : Fr n0 locs) (g : n0 ≤ b)
    (hd : decode c.code pc = .ok (.aastore, 1)) :
    ∃ T' h' L', Stand p l e R s m args below meth c T' L' cells slots ∧ Fr n0 L' ∧ T'.heap = h' ∧ Wr h h' b i (.ref y) ∧ Arv Z h' b kA (.object C) n vs' .null ∧ ∀ t, Steps p.tables e below (T'.setTop (mkF m (pc + 1) Ls rest)) t → Steps p.tables e below (T.setTop (mkF m pc Ls (.ref y :: .int j :: .ref b :: rest))) t := by
  obtain ⟨cl, A, q, S, Nn, H, G⟩ := V
  subst hvs
  obtain ⟨T', h', X', e', W', st'⟩ := stR X hx hZ eT A (j := j) (inb_of S hj) rfl (Sto.ofV A q O I) (g := mkF m pc Ls (.ref y :: .int j :: .ref b :: rest)) rfl rfl hd
  refine ⟨T', h', _, X', Fr.snoc X' N g, e', hi ▸ W', Arv.set A q S Nn H G rfl W' i hi hil, st'⟩
theorem own_ldR (X : Stand p l e R s m args below meth c T locs cells slots) (hx : p.tables.exec = Jvm.exec) (hZ : Z.Warmed39 s.vm) (eT : T.heap = h) {b : Addr} {kA : ClassId} {ty : FieldType} {n j : Int32} {vs : List Value} {dv v : Value} (V : Arv Z h b kA ty n vs dv) (hty : ty.isReference = true) (hj : ¬ j < 0 ∧ j < n) (hv : vs.getD j.toNatClampNeg dv = v) (hd : decode c.code pc = .ok (.aaload, 1)) :
    ∀ t, Steps p.tables e below (T.setTop (mkF m (pc + 1) Ls (v :: rest))) t → Steps p.tables e below (T.setTop (mkF m pc Ls (.int j :: .ref b :: rest))) t := by
  obtain ⟨cl, A, q, S, Nn, H, G⟩ := V
  intro t k
  exact X.aaload hx (j := j) (v := v) (by rw [eT]; exact A.1) (State.isArrayOf_alike hZ.alike A.2.1) hty A.2.2 (inb_of S hj) (H.at (inb_of S hj) hv) (g := mkF m pc Ls (.int j :: .ref b :: rest)) rfl rfl hd t k
theorem own_len (X : Stand p l e R s m args below meth c T locs cells slots) (hx : p.tables.exec = Jvm.exec) (hZ : Z.Warmed39 s.vm) (eT : T.heap = h) {b : Addr} {kA : ClassId} {ty : FieldType} {n : Int32} {vs : List Value} {dv : Value} (V : Arv Z h b kA ty n vs dv) (hd : decode c.code pc = .ok (.arraylength, 1)) :
    ∀ t, Steps p.tables e below (T.setTop (mkF m (pc + 1) Ls (.int n :: rest))) t → Steps p.tables e below (T.setTop (mkF m pc Ls (.ref b :: rest))) t := by
  obtain ⟨cl, A, q, S, Nn, H, G⟩ := V
  intro t k
  refine X.arraylength hx (by rw [eT]; exact A.1) (State.isArrayOf_alike hZ.alike A.2.1) (g := mkF m pc Ls (.ref b :: rest)) rfl rfl hd t ?_
  rw [len_of S Nn]
  exact k
end OwnArr
theorem own_maskInt (x : Int32) : 0 ≤ (x &&& (2147483647 : Int32)).toInt := by
  have h : (x &&& (2147483647 : Int32)).toBitVec.msb = false := by
    show (x.toBitVec &&& 2147483647#32).msb = false
    rw [BitVec.msb_and]
    have : (2147483647#32).msb = false := by decide
    rw [this, Bool.and_false]
  have h2 : (x &&& (2147483647 : Int32)).toInt = (x &&& (2147483647 : Int32)).toBitVec.toInt := rfl
  rw [h2, BitVec.toInt_eq_toNat_of_msb h]
  omega
theorem own_rem (x n : Int32) (hn : 0 < n.toInt) : ¬ (x &&& (2147483647 : Int32)) % n < 0 ∧ (x &&& (2147483647 : Int32)) % n < n := by
  have h0 := own_maskInt x
  have e0 : (0 : Int32).toInt = 0 := rfl
  rw [Int32.lt_iff_toInt_lt, Int32.lt_iff_toInt_lt, Int32.toInt_mod, e0]
  have h1 := Int.tmod_nonneg n.toInt h0
  have h2 := Int.tmod_lt_of_pos (x &&& (2147483647 : Int32)).toInt hn
  omega
theorem own_c12 (i : Int32) (h : ¬ i < 0) (h2 : i < 12) : i = 0 ∨ i = 1 ∨ i = 2 ∨ i = 3 ∨ i = 4 ∨ i = 5 ∨ i = 6 ∨ i = 7 ∨ i = 8 ∨ i = 9 ∨ i = 10 ∨ i = 11 := by
  have e0 : (0 : Int32).toInt = 0 := rfl
  have e1 : (12 : Int32).toInt = 12 := rfl
  rw [Int32.lt_iff_toInt_lt] at h h2
  have h3 : i.toInt = 0 ∨ i.toInt = 1 ∨ i.toInt = 2 ∨ i.toInt = 3 ∨ i.toInt = 4 ∨ i.toInt = 5 ∨ i.toInt = 6 ∨ i.toInt = 7 ∨ i.toInt = 8 ∨ i.toInt = 9 ∨ i.toInt = 10 ∨ i.toInt = 11 := by omega
  rcases h3 with q | q | q | q | q | q | q | q | q | q | q | q
  · exact Or.inl (Int32.toInt_inj.mp q)
  · exact Or.inr (Or.inl (Int32.toInt_inj.mp q))
  · exact Or.inr (Or.inr (Or.inl (Int32.toInt_inj.mp q)))
  · exact Or.inr (Or.inr (Or.inr (Or.inl (Int32.toInt_inj.mp q))))
  · exact Or.inr (Or.inr (Or.inr (Or.inr (Or.inl (Int32.toInt_inj.mp q)))))
  · exact Or.inr (Or.inr (Or.inr (Or.inr (Or.inr (Or.inl (Int32.toInt_inj.mp q))))))
  · exact Or.inr (Or.inr (Or.inr (Or.inr (Or.inr (Or.inr (Or.inl (Int32.toInt_inj.mp q)))))))
  · exact Or.inr (Or.inr (Or.inr (Or.inr (Or.inr (Or.inr (Or.inr (Or.inl (Int32.toInt_inj.mp q))))))))
  · exact Or.inr (Or.inr (Or.inr (Or.inr (Or.inr (Or.inr (Or.inr (Or.inr (Or.inl (Int32.toInt_inj.mp q)))))))))
  · exact Or.inr (Or.inr (Or.inr (Or.inr (Or.inr (Or.inr (Or.inr (Or.inr (Or.inr (Or.inl (Int32.toInt_inj.mp q))))))))))
  · exact Or.inr (Or.inr (Or.inr (Or.inr (Or.inr (Or.inr (Or.inr (Or.inr (Or.inr (Or.inr (Or.inl (Int32.toInt_inj.mp q)))))))))))
  · exact Or.inr (Or.inr (Or.inr (Or.inr (Or.inr (Or.inr (Or.inr (Or.inr (Or.inr (Or.inr (Or.inr (Int32.toInt_inj.mp q)))))))))))
theorem pn_com_example_nautiloid_nautiloid_lang_Atom : plainName "com/example/nautiloid/nautiloid/lang/Atom" = true := by first | (simp [plainName, overriddenIn]; done) | decide +kernel
theorem ef_1 (m : MethodId) (x0 : Addr) : entryFrame m #[(.ref x0)] 1 = mkF m 0 #[.val (.ref x0)] [] := by first | (simp [entryFrame, mkF, argsToLocals, Value.category]; done) | rfl
theorem d1_0 : decode prog_75_method_5_code 0 = .ok (.aload_n 0, 1) := by decide +kernel
theorem d1_1 : decode prog_75_method_5_code 1 = .ok (.getfield 63, 3) := by decide +kernel
theorem d1_4 : decode prog_75_method_5_code 4 = .ok (.ifnonnull 7, 3) := by decide +kernel
theorem d1_7 : decode prog_75_method_5_code 7 = .ok (.iconst 1, 1) := by decide +kernel
theorem d1_8 : decode prog_75_method_5_code 8 = .ok (.goto 4, 3) := by decide +kernel
theorem d1_12 : decode prog_75_method_5_code 12 = .ok (.ireturn, 1) := by decide +kernel
theorem d1_11 : decode prog_75_method_5_code 11 = .ok (.iconst 0, 1) := by decide +kernel
theorem pn_com_example_nautiloid_nautiloid_lang_AtomIsGenericPinLaw : plainName "com/example/nautiloid/nautiloid/lang/AtomIsGenericPinLaw" = true := by first | (simp [plainName, overriddenIn]; done) | decide +kernel
theorem ef_0 (m : MethodId) (x0 : Int32) : entryFrame m #[(.int x0)] maxLocals = mkF m 0 #[.val (.int x0), .unset, .unset, .unset, .unset] [] := by first | (simp [entryFrame, mkF, argsToLocals, Value.category, maxLocals]; done) | rfl
theorem pd_0 : parseMethodDescriptor "()Z" = some ⟨[], some .boolean⟩ := by decide +kernel
set_option maxRecDepth 65536 in
set_option maxHeartbeats 40000000 in
theorem rm1n (l : Launch) (Z : State) (a0 : Array Value) (hw : ∀ d ∈ tables_1, d.before a0 Z = true) (ws : List Jvm.Cond) (a1 : Addr) (h0 : Heap) (n0 : Nat) (Z0 : n0 ≤ h0.size) (F1 : Fld Z h0 a1 "com/example/nautiloid/nautiloid/lang/Atom" "type" "Lcom/example/nautiloid/nautiloid/lang/Type;" .null) :
    own_Met l Z (⟨"com/example/nautiloid/nautiloid/lang/Atom", "isGeneric", "()Z"⟩ : MethodName) prog_75_method_5_code 1 (some .boolean) ws ({ frames := 0, cells := 0, slots := 0, locals := 0 } : Room) #[(.ref a1)] h0 (fun v h L => v = some (.int 1) ∧ Fr n0 L ∧ h = h0) := by
  refine own_body (by first | exact plainFor_of_name pn_com_example_nautiloid_nautiloid_lang_Atom | decide +kernel) ?_
  intro p e s m below meth c T0 X0 hx hby hml hret hlk hZ hown hnm e0
  have hown : s.vm.findClass "com/example/nautiloid/nautiloid/lang/Atom" = some m.cls := hown
  have hnm : meth.name = "isGeneric" := hnm
  have N0 := Fr.nil n0
  rw [ef_1 m a1]
  show own_Go p e below _ T0 (mkF m 0 #[.val (.ref a1)] [])
  refine own_go (fun t k => XS.aloadN X0.here hx rfl (hb hby d1_0) rfl rfl k) ?_
  show own_Go p e below _ T0 (mkF m 1 #[.val (.ref a1)] [(.ref a1)])
  obtain ⟨T1, X1, e1, st1⟩ := getF X0 hx hZ hown (host := "") (Or.inl (own_w hw 34 rfl)) Via.refl e0 F1 (g := (mkF m 1 #[.val (.ref a1)] [(.ref a1)])) rfl rfl (hb hby d1_1)
  refine own_go st1 ?_
  show own_Go p e below _ T1 (mkF m 4 #[.val (.ref a1)] [.null])
  refine own_go (fun t k => XS.ifnonnullNo X1.here hx rfl (hb hby d1_4) rfl k) ?_
  show own_Go p e below _ T1 (mkF m 7 #[.val (.ref a1)] [])
  refine own_go (fun t k => XS.iconst X1.here hx rfl (hb hby d1_7) k) ?_
  show own_Go p e below _ T1 (mkF m 8 #[.val (.ref a1)] [(.int (1 : Int32))])
  refine own_go (fun t k => XS.goto X1.here hx rfl (pc0 := 8) (pc' := 12) rfl (hb hby d1_8) (by decide) (by decide) k) ?_
  show own_Go p e below _ T1 (mkF m 12 #[.val (.ref a1)] [(.int (1 : Int32))])
  refine own_retZ X1 hx hlk hret (hb hby d1_12) (Or.inr rfl) (by decide) (by decide) ?_
  exact ⟨rfl, N0, e1⟩
set_option maxRecDepth 65536 in
set_option maxHeartbeats 40000000 in
theorem rm1r (l : Launch) (Z : State) (a0 : Array Value) (hw : ∀ d ∈ tables_1, d.before a0 Z = true) (ws : List Jvm.Cond) (a1 : Addr) (b1 : Addr) (h0 : Heap) (n0 : Nat) (Z0 : n0 ≤ h0.size) (F1 : Fld Z h0 a1 "com/example/nautiloid/nautiloid/lang/Atom" "type" "Lcom/example/nautiloid/nautiloid/lang/Type;" (.ref b1)) :
    own_Met l Z (⟨"com/example/nautiloid/nautiloid/lang/Atom", "isGeneric", "()Z"⟩ : MethodName) prog_75_method_5_code 1 (some .boolean) ws ({ frames := 0, cells := 0, slots := 0, locals := 0 } : Room) #[(.ref a1)] h0 (fun v h L => v = some (.int 0) ∧ Fr n0 L ∧ h = h0) := by
  refine own_body (by first | exact plainFor_of_name pn_com_example_nautiloid_nautiloid_lang_Atom | decide +kernel) ?_
  intro p e s m below meth c T0 X0 hx hby hml hret hlk hZ hown hnm e0
  have hown : s.vm.findClass "com/example/nautiloid/nautiloid/lang/Atom" = some m.cls := hown
  have hnm : meth.name = "isGeneric" := hnm
  have N0 := Fr.nil n0
  rw [ef_1 m a1]
  show own_Go p e below _ T0 (mkF m 0 #[.val (.ref a1)] [])
  refine own_go (fun t k => XS.aloadN X0.here hx rfl (hb hby d1_0) rfl rfl k) ?_
  show own_Go p e below _ T0 (mkF m 1 #[.val (.ref a1)] [(.ref a1)])
  obtain ⟨T1, X1, e1, st1⟩ := getF X0 hx hZ hown (host := "") (Or.inl (own_w hw 34 rfl)) Via.refl e0 F1 (g := (mkF m 1 #[.val (.ref a1)] [(.ref a1)])) rfl rfl (hb hby d1_1)
  refine own_go st1 ?_
  show own_Go p e below _ T1 (mkF m 4 #[.val (.ref a1)] [(.ref b1)])
  refine own_go (fun t k => XS.ifnonnullYes X1.here hx rfl (pc0 := 4) (pc' := 11) rfl (hb hby d1_4) rfl (by decide) (by decide) k) ?_
  show own_Go p e below _ T1 (mkF m 11 #[.val (.ref a1)] [])
  refine own_go (fun t k => XS.iconst X1.here hx rfl (hb hby d1_11) k) ?_
  show own_Go p e below _ T1 (mkF m 12 #[.val (.ref a1)] [(.int (0 : Int32))])
  refine own_retZ X1 hx hlk hret (hb hby d1_12) (Or.inl rfl) (by decide) (by decide) ?_
  exact ⟨rfl, N0, e1⟩
set_option maxRecDepth 65536 in
set_option maxHeartbeats 40000000 in
theorem rm0 (l : Launch) (Z : State) (a0 : Array Value) (hw : ∀ d ∈ tables_1, d.before a0 Z = true) (ws : List Jvm.Cond) (p1 : Int32) (a_INTEGERS : Addr) (a_NATURALS : Addr) (a_POSITIVE_NATURALS : Addr) (a_BOOLEANS : Addr) (a_TRUE : Addr) (a_FALSE : Addr) (a_SUCCESSOR : Addr) (a_PREDECESSOR : Addr) (a_EMPTY_SET : Addr) (a_IDENTITY : Addr) (a_FIRST_PROJECTION : Addr) (a_SECOND_PROJECTION : Addr) (b_INTEGERS_type : Addr) (b_BOOLEANS_type : Addr) (b_POSITIVE_NATURALS_type : Addr) (b_PREDECESSOR_type : Addr) (b_TRUE_type : Addr) (b_NATURALS_type : Addr) (b_SUCCESSOR_type : Addr) (h0 : Heap) (n0 : Nat) (Z0 : n0 ≤ h0.size) (O0 : Old Z n0 h0) (S_INTEGERS : Sta Z Z.heap "com/example/nautiloid/nautiloid/lang/Atom" "INTEGERS" "Lcom/example/nautiloid/nautiloid/lang/Atom;" (.ref a_INTEGERS)) (E_INTEGERS : Exa Z Z.heap a_INTEGERS "com/example/nautiloid/nautiloid/lang/Atom") (S_NATURALS : Sta Z Z.heap "com/example/nautiloid/nautiloid/lang/Atom" "NATURALS" "Lcom/example/nautiloid/nautiloid/lang/Atom;" (.ref a_NATURALS)) (E_NATURALS : Exa Z Z.heap a_NATURALS "com/example/nautiloid/nautiloid/lang/Atom") (S_POSITIVE_NATURALS : Sta Z Z.heap "com/example/nautiloid/nautiloid/lang/Atom" "POSITIVE_NATURALS" "Lcom/example/nautiloid/nautiloid/lang/Atom;" (.ref a_POSITIVE_NATURALS)) (E_POSITIVE_NATURALS : Exa Z Z.heap a_POSITIVE_NATURALS "com/example/nautiloid/nautiloid/lang/Atom") (S_BOOLEANS : Sta Z Z.heap "com/example/nautiloid/nautiloid/lang/Atom" "BOOLEANS" "Lcom/example/nautiloid/nautiloid/lang/Atom;" (.ref a_BOOLEANS)) (E_BOOLEANS : Exa Z Z.heap a_BOOLEANS "com/example/nautiloid/nautiloid/lang/Atom") (S_TRUE : Sta Z Z.heap "com/example/nautiloid/nautiloid/lang/Atom" "TRUE" "Lcom/example/nautiloid/nautiloid/lang/Atom;" (.ref a_TRUE)) (E_TRUE : Exa Z Z.heap a_TRUE "com/example/nautiloid/nautiloid/lang/Atom") (S_FALSE : Sta Z Z.heap "com/example/nautiloid/nautiloid/lang/Atom" "FALSE" "Lcom/example/nautiloid/nautiloid/lang/Atom;" (.ref a_FALSE)) (E_FALSE : Exa Z Z.heap a_FALSE "com/example/nautiloid/nautiloid/lang/Atom") (S_SUCCESSOR : Sta Z Z.heap "com/example/nautiloid/nautiloid/lang/Atom" "SUCCESSOR" "Lcom/example/nautiloid/nautiloid/lang/Atom;" (.ref a_SUCCESSOR)) (E_SUCCESSOR : Exa Z Z.heap a_SUCCESSOR "com/example/nautiloid/nautiloid/lang/Atom") (S_PREDECESSOR : Sta Z Z.heap "com/example/nautiloid/nautiloid/lang/Atom" "PREDECESSOR" "Lcom/example/nautiloid/nautiloid/lang/Atom;" (.ref a_PREDECESSOR)) (E_PREDECESSOR : Exa Z Z.heap a_PREDECESSOR "com/example/nautiloid/nautiloid/lang/Atom") (S_EMPTY_SET : Sta Z Z.heap "com/example/nautiloid/nautiloid/lang/Atom" "EMPTY_SET" "Lcom/example/nautiloid/nautiloid/lang/Atom;" (.ref a_EMPTY_SET)) (E_EMPTY_SET : Exa Z Z.heap a_EMPTY_SET "com/example/nautiloid/nautiloid/lang/Atom") (S_IDENTITY : Sta Z Z.heap "com/example/nautiloid/nautiloid/lang/Atom" "IDENTITY" "Lcom/example/nautiloid/nautiloid/lang/Atom;" (.ref a_IDENTITY)) (E_IDENTITY : Exa Z Z.heap a_IDENTITY "com/example/nautiloid/nautiloid/lang/Atom") (S_FIRST_PROJECTION : Sta Z Z.heap "com/example/nautiloid/nautiloid/lang/Atom" "FIRST_PROJECTION" "Lcom/example/nautiloid/nautiloid/lang/Atom;" (.ref a_FIRST_PROJECTION)) (E_FIRST_PROJECTION : Exa Z Z.heap a_FIRST_PROJECTION "com/example/nautiloid/nautiloid/lang/Atom") (S_SECOND_PROJECTION : Sta Z Z.heap "com/example/nautiloid/nautiloid/lang/Atom" "SECOND_PROJECTION" "Lcom/example/nautiloid/nautiloid/lang/Atom;" (.ref a_SECOND_PROJECTION)) (E_SECOND_PROJECTION : Exa Z Z.heap a_SECOND_PROJECTION "com/example/nautiloid/nautiloid/lang/Atom") (F_INTEGERS_type : Fld Z Z.heap a_INTEGERS "com/example/nautiloid/nautiloid/lang/Atom" "type" "Lcom/example/nautiloid/nautiloid/lang/Type;" (.ref b_INTEGERS_type)) (F_BOOLEANS_type : Fld Z Z.heap a_BOOLEANS "com/example/nautiloid/nautiloid/lang/Atom" "type" "Lcom/example/nautiloid/nautiloid/lang/Type;" (.ref b_BOOLEANS_type)) (F_POSITIVE_NATURALS_type : Fld Z Z.heap a_POSITIVE_NATURALS "com/example/nautiloid/nautiloid/lang/Atom" "type" "Lcom/example/nautiloid/nautiloid/lang/Type;" (.ref b_POSITIVE_NATURALS_type)) (F_PREDECESSOR_type : Fld Z Z.heap a_PREDECESSOR "com/example/nautiloid/nautiloid/lang/Atom" "type" "Lcom/example/nautiloid/nautiloid/lang/Type;" (.ref b_PREDECESSOR_type)) (F_SECOND_PROJECTION_type : Fld Z Z.heap a_SECOND_PROJECTION "com/example/nautiloid/nautiloid/lang/Atom" "type" "Lcom/example/nautiloid/nautiloid/lang/Type;" .null) (F_TRUE_type : Fld Z Z.heap a_TRUE "com/example/nautiloid/nautiloid/lang/Atom" "type" "Lcom/example/nautiloid/nautiloid/lang/Type;" (.ref b_TRUE_type)) (F_EMPTY_SET_type : Fld Z Z.heap a_EMPTY_SET "com/example/nautiloid/nautiloid/lang/Atom" "type" "Lcom/example/nautiloid/nautiloid/lang/Type;" .null) (F_NATURALS_type : Fld Z Z.heap a_NATURALS "com/example/nautiloid/nautiloid/lang/Atom" "type" "Lcom/example/nautiloid/nautiloid/lang/Type;" (.ref b_NATURALS_type)) (F_FIRST_PROJECTION_type : Fld Z Z.heap a_FIRST_PROJECTION "com/example/nautiloid/nautiloid/lang/Atom" "type" "Lcom/example/nautiloid/nautiloid/lang/Type;" .null) (F_IDENTITY_type : Fld Z Z.heap a_IDENTITY "com/example/nautiloid/nautiloid/lang/Atom" "type" "Lcom/example/nautiloid/nautiloid/lang/Type;" .null) (F_SUCCESSOR_type : Fld Z Z.heap a_SUCCESSOR "com/example/nautiloid/nautiloid/lang/Atom" "type" "Lcom/example/nautiloid/nautiloid/lang/Type;" (.ref b_SUCCESSOR_type)) (F_FALSE_type : Fld Z Z.heap a_FALSE "com/example/nautiloid/nautiloid/lang/Atom" "type" "Lcom/example/nautiloid/nautiloid/lang/Type;" (.ref b_TRUE_type)) :
    own_Met l Z x code maxLocals ret ws room_1 #[(.int p1)] h0 (fun v h L => v = some (.int 1) ∧ Fr n0 L) := by
  refine own_body (by first | exact plainFor_of_name pn_com_example_nautiloid_nautiloid_lang_AtomIsGenericPinLaw | decide +kernel) ?_
  intro p e s m below meth c T0 X0 hx hby hml hret hlk hZ hown hnm e0
  have hown : s.vm.findClass "com/example/nautiloid/nautiloid/lang/AtomIsGenericPinLaw" = some m.cls := hown
  have hnm : meth.name = "law" := hnm
  have N0 := Fr.nil n0
  rw [ef_0 m p1]
  show own_Go p e below _ T0 (mkF m 0 #[.val (.int p1), .unset, .unset, .unset, .unset] [])
  refine own_go (fun t k => XS.bipush X0.here hx rfl (hb hby at_0) k) ?_
  show own_Go p e below _ T0 (mkF m 2 #[.val (.int p1), .unset, .unset, .unset, .unset] [(.int (12 : Int32))])
  obtain ⟨T1, h1, b1, k1, X1, e1, E1, g1, V1, O1, st1⟩ := own_newR X0 hx hZ hown (own_w hw 0 rfl) (own_w hw 1 rfl) e0 (Ls := #[.val (.int p1), .unset, .unset, .unset, .unset]) (rest := []) (hb hby at_2) (n := (12 : Int32)) (by decide) 12 (by decide) (by decide) (by decide) (by decide)
  have ge_b1 : n0 ≤ b1 := g1 ▸ own_oldge O0
  have old1 := O0.ext E1
  have V1 : Arv Z h1 b1 k1 (.object "com/example/nautiloid/nautiloid/lang/Atom") (12 : Int32) [.null, .null, .null, .null, .null, .null, .null, .null, .null, .null, .null, .null] .null := V1
  refine own_go st1 ?_
  show own_Go p e below _ T1 (mkF m 5 #[.val (.int p1), .unset, .unset, .unset, .unset] [(.ref b1)])
  refine own_go (fun t k => XS.dup X1.here hx rfl (hb hby at_5) rfl rfl k) ?_
  show own_Go p e below _ T1 (mkF m 6 #[.val (.int p1), .unset, .unset, .unset, .unset] [(.ref b1), (.ref b1)])
  refine own_go (fun t k => XS.iconst X1.here hx rfl (hb hby at_6) k) ?_
  show own_Go p e below _ T1 (mkF m 7 #[.val (.int p1), .unset, .unset, .unset, .unset] [(.int (0 : Int32)), (.ref b1), (.ref b1)])
  obtain ⟨T2, X2, e2, st2⟩ := getS2 X1 hx hZ hown (host := "") (Or.inl (own_w hw 2 rfl)) Via.refl e1 (S_INTEGERS.ext old1.2) (g := (mkF m 7 #[.val (.int p1), .unset, .unset, .unset, .unset] [(.int (0 : Int32)), (.ref b1), (.ref b1)])) rfl (hb hby at_7)
  refine own_go st2 ?_
  show own_Go p e below _ T2 (mkF m 10 #[.val (.int p1), .unset, .unset, .unset, .unset] [(.ref a_INTEGERS), (.int (0 : Int32)), (.ref b1), (.ref b1)])
  obtain ⟨T3, h3, L3, X3, N3, e3, W3, V3, st3⟩ := own_stR X2 hx hZ e2 (j := (0 : Int32)) (vs' := [(.ref a_INTEGERS), .null, .null, .null, .null, .null, .null, .null, .null, .null, .null, .null]) V1 O1 (Ins.self (E_INTEGERS.ext old1.2)) (by decide) 0 rfl (Nat.le_of_ble_eq_true rfl) rfl N0 ge_b1 (Ls := #[.val (.int p1), .unset, .unset, .unset, .unset]) (rest := [(.ref b1)]) (hb hby at_10)
  have old3 := old1.wr W3 ge_b1
  refine own_go st3 ?_
  show own_Go p e below _ T3 (mkF m 11 #[.val (.int p1), .unset, .unset, .unset, .unset] [(.ref b1)])
  refine own_go (fun t k => XS.dup X3.here hx rfl (hb hby at_11) rfl rfl k) ?_
  show own_Go p e below _ T3 (mkF m 12 #[.val (.int p1), .unset, .unset, .unset, .unset] [(.ref b1), (.ref b1)])
  refine own_go (fun t k => XS.iconst X3.here hx rfl (hb hby at_12) k) ?_
  show own_Go p e below _ T3 (mkF m 13 #[.val (.int p1), .unset, .unset, .unset, .unset] [(.int (1 : Int32)), (.ref b1), (.ref b1)])
  obtain ⟨T4, X4, e4, st4⟩ := getS2 X3 hx hZ hown (host := "") (Or.inl (own_w hw 6 rfl)) Via.refl e3 (S_NATURALS.ext old3.2) (g := (mkF m 13 #[.val (.int p1), .unset, .unset, .unset, .unset] [(.int (1 : Int32)), (.ref b1), (.ref b1)])) rfl (hb hby at_13)
  refine own_go st4 ?_
  show own_Go p e below _ T4 (mkF m 16 #[.val (.int p1), .unset, .unset, .unset, .unset] [(.ref a_NATURALS), (.int (1 : Int32)), (.ref b1), (.ref b1)])
  obtain ⟨T5, h5, L5, X5, N5, e5, W5, V5, st5⟩ := own_stR X4 hx hZ e4 (j := (1 : Int32)) (vs' := [(.ref a_INTEGERS), (.ref a_NATURALS), .null, .null, .null, .null, .null, .null, .null, .null, .null, .null]) V3 O1 (Ins.self (E_NATURALS.ext old3.2)) (by decide) 1 rfl (Nat.le_of_ble_eq_true rfl) rfl N3 ge_b1 (Ls := #[.val (.int p1), .unset, .unset, .unset, .unset]) (rest := [(.ref b1)]) (hb hby at_16)
  have old5 := old3.wr W5 ge_b1
  refine own_go st5 ?_
  show own_Go p e below _ T5 (mkF m 17 #[.val (.int p1), .unset, .unset, .unset, .unset] [(.ref b1)])
  refine own_go (fun t k => XS.dup X5.here hx rfl (hb hby at_17) rfl rfl k) ?_
  show own_Go p e below _ T5 (mkF m 18 #[.val (.int p1), .unset, .unset, .unset, .unset] [(.ref b1), (.ref b1)])
  refine own_go (fun t k => XS.iconst X5.here hx rfl (hb hby at_18) k) ?_
  show own_Go p e below _ T5 (mkF m 19 #[.val (.int p1), .unset, .unset, .unset, .unset] [(.int (2 : Int32)), (.ref b1), (.ref b1)])
  obtain ⟨T6, X6, e6, st6⟩ := getS2 X5 hx hZ hown (host := "") (Or.inl (own_w hw 8 rfl)) Via.refl e5 (S_POSITIVE_NATURALS.ext old5.2) (g := (mkF m 19 #[.val (.int p1), .unset, .unset, .unset, .unset] [(.int (2 : Int32)), (.ref b1), (.ref b1)])) rfl (hb hby at_19)
  refine own_go st6 ?_
  show own_Go p e below _ T6 (mkF m 22 #[.val (.int p1), .unset, .unset, .unset, .unset] [(.ref a_POSITIVE_NATURALS), (.int (2 : Int32)), (.ref b1), (.ref b1)])
  obtain ⟨T7, h7, L7, X7, N7, e7, W7, V7, st7⟩ := own_stR X6 hx hZ e6 (j := (2 : Int32)) (vs' := [(.ref a_INTEGERS), (.ref a_NATURALS), (.ref a_POSITIVE_NATURALS), .null, .null, .null, .null, .null, .null, .null, .null, .null]) V5 O1 (Ins.self (E_POSITIVE_NATURALS.ext old5.2)) (by decide) 2 rfl (Nat.le_of_ble_eq_true rfl) rfl N5 ge_b1 (Ls := #[.val (.int p1), .unset, .unset, .unset, .unset]) (rest := [(.ref b1)]) (hb hby at_22)
  have old7 := old5.wr W7 ge_b1
  refine own_go st7 ?_
  show own_Go p e below _ T7 (mkF m 23 #[.val (.int p1), .unset, .unset, .unset, .unset] [(.ref b1)])
  refine own_go (fun t k => XS.dup X7.here hx rfl (hb hby at_23) rfl rfl k) ?_
  show own_Go p e below _ T7 (mkF m 24 #[.val (.int p1), .unset, .unset, .unset, .unset] [(.ref b1), (.ref b1)])
  refine own_go (fun t k => XS.iconst X7.here hx rfl (hb hby at_24) k) ?_
  show own_Go p e below _ T7 (mkF m 25 #[.val (.int p1), .unset, .unset, .unset, .unset] [(.int (3 : Int32)), (.ref b1), (.ref b1)])
  obtain ⟨T8, X8, e8, st8⟩ := getS2 X7 hx hZ hown (host := "") (Or.inl (own_w hw 10 rfl)) Via.refl e7 (S_BOOLEANS.ext old7.2) (g := (mkF m 25 #[.val (.int p1), .unset, .unset, .unset, .unset] [(.int (3 : Int32)), (.ref b1), (.ref b1)])) rfl (hb hby at_25)
  refine own_go st8 ?_
  show own_Go p e below _ T8 (mkF m 28 #[.val (.int p1), .unset, .unset, .unset, .unset] [(.ref a_BOOLEANS), (.int (3 : Int32)), (.ref b1), (.ref b1)])
  obtain ⟨T9, h9, L9, X9, N9, e9, W9, V9, st9⟩ := own_stR X8 hx hZ e8 (j := (3 : Int32)) (vs' := [(.ref a_INTEGERS), (.ref a_NATURALS), (.ref a_POSITIVE_NATURALS), (.ref a_BOOLEANS), .null, .null, .null, .null, .null, .null, .null, .null]) V7 O1 (Ins.self (E_BOOLEANS.ext old7.2)) (by decide) 3 rfl (Nat.le_of_ble_eq_true rfl) rfl N7 ge_b1 (Ls := #[.val (.int p1), .unset, .unset, .unset, .unset]) (rest := [(.ref b1)]) (hb hby at_28)
  have old9 := old7.wr W9 ge_b1
  refine own_go st9 ?_
  show own_Go p e below _ T9 (mkF m 29 #[.val (.int p1), .unset, .unset, .unset, .unset] [(.ref b1)])
  refine own_go (fun t k => XS.dup X9.here hx rfl (hb hby at_29) rfl rfl k) ?_
  show own_Go p e below _ T9 (mkF m 30 #[.val (.int p1), .unset, .unset, .unset, .unset] [(.ref b1), (.ref b1)])
  refine own_go (fun t k => XS.iconst X9.here hx rfl (hb hby at_30) k) ?_
  show own_Go p e below _ T9 (mkF m 31 #[.val (.int p1), .unset, .unset, .unset, .unset] [(.int (4 : Int32)), (.ref b1), (.ref b1)])
  obtain ⟨T10, X10, e10, st10⟩ := getS2 X9 hx hZ hown (host := "") (Or.inl (own_w hw 12 rfl)) Via.refl e9 (S_TRUE.ext old9.2) (g := (mkF m 31 #[.val (.int p1), .unset, .unset, .unset, .unset] [(.int (4 : Int32)), (.ref b1), (.ref b1)])) rfl (hb hby at_31)
  refine own_go st10 ?_
  show own_Go p e below _ T10 (mkF m 34 #[.val (.int p1), .unset, .unset, .unset, .unset] [(.ref a_TRUE), (.int (4 : Int32)), (.ref b1), (.ref b1)])
  obtain ⟨T11, h11, L11, X11, N11, e11, W11, V11, st11⟩ := own_stR X10 hx hZ e10 (j := (4 : Int32)) (vs' := [(.ref a_INTEGERS), (.ref a_NATURALS), (.ref a_POSITIVE_NATURALS), (.ref a_BOOLEANS), (.ref a_TRUE), .null, .null, .null, .null, .null, .null, .null]) V9 O1 (Ins.self (E_TRUE.ext old9.2)) (by decide) 4 rfl (Nat.le_of_ble_eq_true rfl) rfl N9 ge_b1 (Ls := #[.val (.int p1), .unset, .unset, .unset, .unset]) (rest := [(.ref b1)]) (hb hby at_34)
  have old11 := old9.wr W11 ge_b1
  refine own_go st11 ?_
  show own_Go p e below _ T11 (mkF m 35 #[.val (.int p1), .unset, .unset, .unset, .unset] [(.ref b1)])
  refine own_go (fun t k => XS.dup X11.here hx rfl (hb hby at_35) rfl rfl k) ?_
  show own_Go p e below _ T11 (mkF m 36 #[.val (.int p1), .unset, .unset, .unset, .unset] [(.ref b1), (.ref b1)])
  refine own_go (fun t k => XS.iconst X11.here hx rfl (hb hby at_36) k) ?_
  show own_Go p e below _ T11 (mkF m 37 #[.val (.int p1), .unset, .unset, .unset, .unset] [(.int (5 : Int32)), (.ref b1), (.ref b1)])
  obtain ⟨T12, X12, e12, st12⟩ := getS2 X11 hx hZ hown (host := "") (Or.inl (own_w hw 14 rfl)) Via.refl e11 (S_FALSE.ext old11.2) (g := (mkF m 37 #[.val (.int p1), .unset, .unset, .unset, .unset] [(.int (5 : Int32)), (.ref b1), (.ref b1)])) rfl (hb hby at_37)
  refine own_go st12 ?_
  show own_Go p e below _ T12 (mkF m 40 #[.val (.int p1), .unset, .unset, .unset, .unset] [(.ref a_FALSE), (.int (5 : Int32)), (.ref b1), (.ref b1)])
  obtain ⟨T13, h13, L13, X13, N13, e13, W13, V13, st13⟩ := own_stR X12 hx hZ e12 (j := (5 : Int32)) (vs' := [(.ref a_INTEGERS), (.ref a_NATURALS), (.ref a_POSITIVE_NATURALS), (.ref a_BOOLEANS), (.ref a_TRUE), (.ref a_FALSE), .null, .null, .null, .null, .null, .null]) V11 O1 (Ins.self (E_FALSE.ext old11.2)) (by decide) 5 rfl (Nat.le_of_ble_eq_true rfl) rfl N11 ge_b1 (Ls := #[.val (.int p1), .unset, .unset, .unset, .unset]) (rest := [(.ref b1)]) (hb hby at_40)
  have old13 := old11.wr W13 ge_b1
  refine own_go st13 ?_
  show own_Go p e below _ T13 (mkF m 41 #[.val (.int p1), .unset, .unset, .unset, .unset] [(.ref b1)])
  refine own_go (fun t k => XS.dup X13.here hx rfl (hb hby at_41) rfl rfl k) ?_
  show own_Go p e below _ T13 (mkF m 42 #[.val (.int p1), .unset, .unset, .unset, .unset] [(.ref b1), (.ref b1)])
  refine own_go (fun t k => XS.bipush X13.here hx rfl (hb hby at_42) k) ?_
  show own_Go p e below _ T13 (mkF m 44 #[.val (.int p1), .unset, .unset, .unset, .unset] [(.int (6 : Int32)), (.ref b1), (.ref b1)])
  obtain ⟨T14, X14, e14, st14⟩ := getS2 X13 hx hZ hown (host := "") (Or.inl (own_w hw 16 rfl)) Via.refl e13 (S_SUCCESSOR.ext old13.2) (g := (mkF m 44 #[.val (.int p1), .unset, .unset, .unset, .unset] [(.int (6 : Int32)), (.ref b1), (.ref b1)])) rfl (hb hby at_44)
  refine own_go st14 ?_
  show own_Go p e below _ T14 (mkF m 47 #[.val (.int p1), .unset, .unset, .unset, .unset] [(.ref a_SUCCESSOR), (.int (6 : Int32)), (.ref b1), (.ref b1)])
  obtain ⟨T15, h15, L15, X15, N15, e15, W15, V15, st15⟩ := own_stR X14 hx hZ e14 (j := (6 : Int32)) (vs' := [(.ref a_INTEGERS), (.ref a_NATURALS), (.ref a_POSITIVE_NATURALS), (.ref a_BOOLEANS), (.ref a_TRUE), (.ref a_FALSE), (.ref a_SUCCESSOR), .null, .null, .null, .null, .null]) V13 O1 (Ins.self (E_SUCCESSOR.ext old13.2)) (by decide) 6 rfl (Nat.le_of_ble_eq_true rfl) rfl N13 ge_b1 (Ls := #[.val (.int p1), .unset, .unset, .unset, .unset]) (rest := [(.ref b1)]) (hb hby at_47)
  have old15 := old13.wr W15 ge_b1
  refine own_go st15 ?_
  show own_Go p e below _ T15 (mkF m 48 #[.val (.int p1), .unset, .unset, .unset, .unset] [(.ref b1)])
  refine own_go (fun t k => XS.dup X15.here hx rfl (hb hby at_48) rfl rfl k) ?_
  show own_Go p e below _ T15 (mkF m 49 #[.val (.int p1), .unset, .unset, .unset, .unset] [(.ref b1), (.ref b1)])
  refine own_go (fun t k => XS.bipush X15.here hx rfl (hb hby at_49) k) ?_
  show own_Go p e below _ T15 (mkF m 51 #[.val (.int p1), .unset, .unset, .unset, .unset] [(.int (7 : Int32)), (.ref b1), (.ref b1)])
  obtain ⟨T16, X16, e16, st16⟩ := getS2 X15 hx hZ hown (host := "") (Or.inl (own_w hw 18 rfl)) Via.refl e15 (S_PREDECESSOR.ext old15.2) (g := (mkF m 51 #[.val (.int p1), .unset, .unset, .unset, .unset] [(.int (7 : Int32)), (.ref b1), (.ref b1)])) rfl (hb hby at_51)
  refine own_go st16 ?_
  show own_Go p e below _ T16 (mkF m 54 #[.val (.int p1), .unset, .unset, .unset, .unset] [(.ref a_PREDECESSOR), (.int (7 : Int32)), (.ref b1), (.ref b1)])
  obtain ⟨T17, h17, L17, X17, N17, e17, W17, V17, st17⟩ := own_stR X16 hx hZ e16 (j := (7 : Int32)) (vs' := [(.ref a_INTEGERS), (.ref a_NATURALS), (.ref a_POSITIVE_NATURALS), (.ref a_BOOLEANS), (.ref a_TRUE), (.ref a_FALSE), (.ref a_SUCCESSOR), (.ref a_PREDECESSOR), .null, .null, .null, .null]) V15 O1 (Ins.self (E_PREDECESSOR.ext old15.2)) (by decide) 7 rfl (Nat.le_of_ble_eq_true rfl) rfl N15 ge_b1 (Ls := #[.val (.int p1), .unset, .unset, .unset, .unset]) (rest := [(.ref b1)]) (hb hby at_54)
  have old17 := old15.wr W17 ge_b1
  refine own_go st17 ?_
  show own_Go p e below _ T17 (mkF m 55 #[.val (.int p1), .unset, .unset, .unset, .unset] [(.ref b1)])
  refine own_go (fun t k => XS.dup X17.here hx rfl (hb hby at_55) rfl rfl k) ?_
  show own_Go p e below _ T17 (mkF m 56 #[.val (.int p1), .unset, .unset, .unset, .unset] [(.ref b1), (.ref b1)])
  refine own_go (fun t k => XS.bipush X17.here hx rfl (hb hby at_56) k) ?_
  show own_Go p e below _ T17 (mkF m 58 #[.val (.int p1), .unset, .unset, .unset, .unset] [(.int (8 : Int32)), (.ref b1), (.ref b1)])
  obtain ⟨T18, X18, e18, st18⟩ := getS2 X17 hx hZ hown (host := "") (Or.inl (own_w hw 20 rfl)) Via.refl e17 (S_EMPTY_SET.ext old17.2) (g := (mkF m 58 #[.val (.int p1), .unset, .unset, .unset, .unset] [(.int (8 : Int32)), (.ref b1), (.ref b1)])) rfl (hb hby at_58)
  refine own_go st18 ?_
  show own_Go p e below _ T18 (mkF m 61 #[.val (.int p1), .unset, .unset, .unset, .unset] [(.ref a_EMPTY_SET), (.int (8 : Int32)), (.ref b1), (.ref b1)])
  obtain ⟨T19, h19, L19, X19, N19, e19, W19, V19, st19⟩ := own_stR X18 hx hZ e18 (j := (8 : Int32)) (vs' := [(.ref a_INTEGERS), (.ref a_NATURALS), (.ref a_POSITIVE_NATURALS), (.ref a_BOOLEANS), (.ref a_TRUE), (.ref a_FALSE), (.ref a_SUCCESSOR), (.ref a_PREDECESSOR), (.ref a_EMPTY_SET), .null, .null, .null]) V17 O1 (Ins.self (E_EMPTY_SET.ext old17.2)) (by decide) 8 rfl (Nat.le_of_ble_eq_true rfl) rfl N17 ge_b1 (Ls := #[.val (.int p1), .unset, .unset, .unset, .unset]) (rest := [(.ref b1)]) (hb hby at_61)
  have old19 := old17.wr W19 ge_b1
  refine own_go st19 ?_
  show own_Go p e below _ T19 (mkF m 62 #[.val (.int p1), .unset, .unset, .unset, .unset] [(.ref b1)])
  refine own_go (fun t k => XS.dup X19.here hx rfl (hb hby at_62) rfl rfl k) ?_
  show own_Go p e below _ T19 (mkF m 63 #[.val (.int p1), .unset, .unset, .unset, .unset] [(.ref b1), (.ref b1)])
  refine own_go (fun t k => XS.bipush X19.here hx rfl (hb hby at_63) k) ?_
  show own_Go p e below _ T19 (mkF m 65 #[.val (.int p1), .unset, .unset, .unset, .unset] [(.int (9 : Int32)), (.ref b1), (.ref b1)])
  obtain ⟨T20, X20, e20, st20⟩ := getS2 X19 hx hZ hown (host := "") (Or.inl (own_w hw 22 rfl)) Via.refl e19 (S_IDENTITY.ext old19.2) (g := (mkF m 65 #[.val (.int p1), .unset, .unset, .unset, .unset] [(.int (9 : Int32)), (.ref b1), (.ref b1)])) rfl (hb hby at_65)
  refine own_go st20 ?_
  show own_Go p e below _ T20 (mkF m 68 #[.val (.int p1), .unset, .unset, .unset, .unset] [(.ref a_IDENTITY), (.int (9 : Int32)), (.ref b1), (.ref b1)])
  obtain ⟨T21, h21, L21, X21, N21, e21, W21, V21, st21⟩ := own_stR X20 hx hZ e20 (j := (9 : Int32)) (vs' := [(.ref a_INTEGERS), (.ref a_NATURALS), (.ref a_POSITIVE_NATURALS), (.ref a_BOOLEANS), (.ref a_TRUE), (.ref a_FALSE), (.ref a_SUCCESSOR), (.ref a_PREDECESSOR), (.ref a_EMPTY_SET), (.ref a_IDENTITY), .null, .null]) V19 O1 (Ins.self (E_IDENTITY.ext old19.2)) (by decide) 9 rfl (Nat.le_of_ble_eq_true rfl) rfl N19 ge_b1 (Ls := #[.val (.int p1), .unset, .unset, .unset, .unset]) (rest := [(.ref b1)]) (hb hby at_68)
  have old21 := old19.wr W21 ge_b1
  refine own_go st21 ?_
  show own_Go p e below _ T21 (mkF m 69 #[.val (.int p1), .unset, .unset, .unset, .unset] [(.ref b1)])
  refine own_go (fun t k => XS.dup X21.here hx rfl (hb hby at_69) rfl rfl k) ?_
  show own_Go p e below _ T21 (mkF m 70 #[.val (.int p1), .unset, .unset, .unset, .unset] [(.ref b1), (.ref b1)])
  refine own_go (fun t k => XS.bipush X21.here hx rfl (hb hby at_70) k) ?_
  show own_Go p e below _ T21 (mkF m 72 #[.val (.int p1), .unset, .unset, .unset, .unset] [(.int (10 : Int32)), (.ref b1), (.ref b1)])
  obtain ⟨T22, X22, e22, st22⟩ := getS2 X21 hx hZ hown (host := "") (Or.inl (own_w hw 24 rfl)) Via.refl e21 (S_FIRST_PROJECTION.ext old21.2) (g := (mkF m 72 #[.val (.int p1), .unset, .unset, .unset, .unset] [(.int (10 : Int32)), (.ref b1), (.ref b1)])) rfl (hb hby at_72)
  refine own_go st22 ?_
  show own_Go p e below _ T22 (mkF m 75 #[.val (.int p1), .unset, .unset, .unset, .unset] [(.ref a_FIRST_PROJECTION), (.int (10 : Int32)), (.ref b1), (.ref b1)])
  obtain ⟨T23, h23, L23, X23, N23, e23, W23, V23, st23⟩ := own_stR X22 hx hZ e22 (j := (10 : Int32)) (vs' := [(.ref a_INTEGERS), (.ref a_NATURALS), (.ref a_POSITIVE_NATURALS), (.ref a_BOOLEANS), (.ref a_TRUE), (.ref a_FALSE), (.ref a_SUCCESSOR), (.ref a_PREDECESSOR), (.ref a_EMPTY_SET), (.ref a_IDENTITY), (.ref a_FIRST_PROJECTION), .null]) V21 O1 (Ins.self (E_FIRST_PROJECTION.ext old21.2)) (by decide) 10 rfl (Nat.le_of_ble_eq_true rfl) rfl N21 ge_b1 (Ls := #[.val (.int p1), .unset, .unset, .unset, .unset]) (rest := [(.ref b1)]) (hb hby at_75)
  have old23 := old21.wr W23 ge_b1
  refine own_go st23 ?_
  show own_Go p e below _ T23 (mkF m 76 #[.val (.int p1), .unset, .unset, .unset, .unset] [(.ref b1)])
  refine own_go (fun t k => XS.dup X23.here hx rfl (hb hby at_76) rfl rfl k) ?_
  show own_Go p e below _ T23 (mkF m 77 #[.val (.int p1), .unset, .unset, .unset, .unset] [(.ref b1), (.ref b1)])
  refine own_go (fun t k => XS.bipush X23.here hx rfl (hb hby at_77) k) ?_
  show own_Go p e below _ T23 (mkF m 79 #[.val (.int p1), .unset, .unset, .unset, .unset] [(.int (11 : Int32)), (.ref b1), (.ref b1)])
  obtain ⟨T24, X24, e24, st24⟩ := getS2 X23 hx hZ hown (host := "") (Or.inl (own_w hw 26 rfl)) Via.refl e23 (S_SECOND_PROJECTION.ext old23.2) (g := (mkF m 79 #[.val (.int p1), .unset, .unset, .unset, .unset] [(.int (11 : Int32)), (.ref b1), (.ref b1)])) rfl (hb hby at_79)
  refine own_go st24 ?_
  show own_Go p e below _ T24 (mkF m 82 #[.val (.int p1), .unset, .unset, .unset, .unset] [(.ref a_SECOND_PROJECTION), (.int (11 : Int32)), (.ref b1), (.ref b1)])
  obtain ⟨T25, h25, L25, X25, N25, e25, W25, V25, st25⟩ := own_stR X24 hx hZ e24 (j := (11 : Int32)) (vs' := [(.ref a_INTEGERS), (.ref a_NATURALS), (.ref a_POSITIVE_NATURALS), (.ref a_BOOLEANS), (.ref a_TRUE), (.ref a_FALSE), (.ref a_SUCCESSOR), (.ref a_PREDECESSOR), (.ref a_EMPTY_SET), (.ref a_IDENTITY), (.ref a_FIRST_PROJECTION), (.ref a_SECOND_PROJECTION)]) V23 O1 (Ins.self (E_SECOND_PROJECTION.ext old23.2)) (by decide) 11 rfl (Nat.le_of_ble_eq_true rfl) rfl N23 ge_b1 (Ls := #[.val (.int p1), .unset, .unset, .unset, .unset]) (rest := [(.ref b1)]) (hb hby at_82)
  have old25 := old23.wr W25 ge_b1
  refine own_go st25 ?_
  show own_Go p e below _ T25 (mkF m 83 #[.val (.int p1), .unset, .unset, .unset, .unset] [(.ref b1)])
  refine own_go (fun t k => XS.astoreN X25.here hx rfl (hb hby at_83) rfl rfl (l' := #[.val (.int p1), .val (.ref b1), .unset, .unset, .unset]) rfl k) ?_
  show own_Go p e below _ T25 (mkF m 84 #[.val (.int p1), .val (.ref b1), .unset, .unset, .unset] [])
  refine own_go (fun t k => XS.iloadN X25.here hx rfl (hb hby at_84) rfl k) ?_
  show own_Go p e below _ T25 (mkF m 85 #[.val (.int p1), .val (.ref b1), .unset, .unset, .unset] [(.int p1)])
  refine own_go (fun t k => X25.ldcInt hx hown (mvT hZ (own_w hw 28 rfl)) (g := (mkF m 85 #[.val (.int p1), .val (.ref b1), .unset, .unset, .unset] [(.int p1)])) rfl (hb hby at_85) t k) ?_
  show own_Go p e below _ T25 (mkF m 87 #[.val (.int p1), .val (.ref b1), .unset, .unset, .unset] [(.int (2147483647 : Int32)), (.int p1)])
  refine own_go (fun t k => XS.iand X25.here hx rfl (hb hby at_87) rfl k) ?_
  show own_Go p e below _ T25 (mkF m 88 #[.val (.int p1), .val (.ref b1), .unset, .unset, .unset] [(.int (p1 &&& (2147483647 : Int32)))])
  refine own_go (fun t k => XS.bipush X25.here hx rfl (hb hby at_88) k) ?_
  show own_Go p e below _ T25 (mkF m 90 #[.val (.int p1), .val (.ref b1), .unset, .unset, .unset] [(.int (12 : Int32)), (.int (p1 &&& (2147483647 : Int32)))])
  refine own_go (fun t k => iremM X25 hx rfl (hb hby at_90) rfl (by decide) k) ?_
  show own_Go p e below _ T25 (mkF m 91 #[.val (.int p1), .val (.ref b1), .unset, .unset, .unset] [(.int ((p1 &&& (2147483647 : Int32)) % (12 : Int32)))])
  have hi := own_rem p1 12 (by decide)
  generalize ((p1 &&& (2147483647 : Int32)) % (12 : Int32)) = i at hi ⊢
  rcases own_c12 i hi.1 hi.2 with rfl | rfl | rfl | rfl | rfl | rfl | rfl | rfl | rfl | rfl | rfl | rfl
  · show own_Go p e below _ T25 (mkF m 91 #[.val (.int p1), .val (.ref b1), .unset, .unset, .unset] [(.int (0 : Int32))])
    refine own_go (fun t k => XS.istoreN X25.here hx rfl (hb hby at_91) rfl (l' := #[.val (.int p1), .val (.ref b1), .val (.int (0 : Int32)), .unset, .unset]) rfl k) ?_
    show own_Go p e below _ T25 (mkF m 92 #[.val (.int p1), .val (.ref b1), .val (.int (0 : Int32)), .unset, .unset] [])
    refine own_go (fun t k => XS.aloadN X25.here hx rfl (hb hby at_92) rfl rfl k) ?_
    show own_Go p e below _ T25 (mkF m 93 #[.val (.int p1), .val (.ref b1), .val (.int (0 : Int32)), .unset, .unset] [(.ref b1)])
    refine own_go (fun t k => XS.iloadN X25.here hx rfl (hb hby at_93) rfl k) ?_
    show own_Go p e below _ T25 (mkF m 94 #[.val (.int p1), .val (.ref b1), .val (.int (0 : Int32)), .unset, .unset] [(.int (0 : Int32)), (.ref b1)])
    refine own_go (own_ldR X25 hx hZ e25 (Ls := #[.val (.int p1), .val (.ref b1), .val (.int (0 : Int32)), .unset, .unset]) (rest := []) V25 rfl (j := (0 : Int32)) (by decide) (v := (.ref a_INTEGERS)) rfl (hb hby at_94)) ?_
    show own_Go p e below _ T25 (mkF m 95 #[.val (.int p1), .val (.ref b1), .val (.int (0 : Int32)), .unset, .unset] [(.ref a_INTEGERS)])
    refine own_go (fun t k => XS.astoreN X25.here hx rfl (hb hby at_95) rfl rfl (l' := #[.val (.int p1), .val (.ref b1), .val (.int (0 : Int32)), .val (.ref a_INTEGERS), .unset]) rfl k) ?_
    show own_Go p e below _ T25 (mkF m 96 #[.val (.int p1), .val (.ref b1), .val (.int (0 : Int32)), .val (.ref a_INTEGERS), .unset] [])
    refine own_go (fun t k => XS.iloadN X25.here hx rfl (hb hby at_96) rfl k) ?_
    show own_Go p e below _ T25 (mkF m 97 #[.val (.int p1), .val (.ref b1), .val (.int (0 : Int32)), .val (.ref a_INTEGERS), .unset] [(.int (0 : Int32))])
    refine own_go (fun t k => XS.bipush X25.here hx rfl (hb hby at_97) k) ?_
    show own_Go p e below _ T25 (mkF m 99 #[.val (.int p1), .val (.ref b1), .val (.int (0 : Int32)), .val (.ref a_INTEGERS), .unset] [(.int (8 : Int32)), (.int (0 : Int32))])
    refine own_go (fun t k => XS.icmpYes X25.here hx rfl (pc0 := 99) (pc' := 106) rfl (hb hby at_99) rfl (XT.ii_lt_t (by decide)) (by decide) (by decide) k) ?_
    show own_Go p e below _ T25 (mkF m 106 #[.val (.int p1), .val (.ref b1), .val (.int (0 : Int32)), .val (.ref a_INTEGERS), .unset] [])
    refine own_go (fun t k => XS.iconst X25.here hx rfl (hb hby at_106) k) ?_
    show own_Go p e below _ T25 (mkF m 107 #[.val (.int p1), .val (.ref b1), .val (.int (0 : Int32)), .val (.ref a_INTEGERS), .unset] [(.int (0 : Int32))])
    refine own_go (fun t k => XS.istore X25.here hx rfl (hb hby at_107) rfl (l' := #[.val (.int p1), .val (.ref b1), .val (.int (0 : Int32)), .val (.ref a_INTEGERS), .val (.int (0 : Int32))]) rfl k) ?_
    show own_Go p e below _ T25 (mkF m 109 #[.val (.int p1), .val (.ref b1), .val (.int (0 : Int32)), .val (.ref a_INTEGERS), .val (.int (0 : Int32))] [])
    refine own_go (fun t k => XS.aloadN X25.here hx rfl (hb hby at_109) rfl rfl k) ?_
    show own_Go p e below _ T25 (mkF m 110 #[.val (.int p1), .val (.ref b1), .val (.int (0 : Int32)), .val (.ref a_INTEGERS), .val (.int (0 : Int32))] [(.ref a_INTEGERS)])
    obtain ⟨_, T26, L26, X26, ⟨rfl, N26, e26⟩, st26⟩ := own_callV X25 hx hZ (y := (⟨"com/example/nautiloid/nautiloid/lang/Atom", "isGeneric", "()Z"⟩ : MethodName)) (z := (⟨"com/example/nautiloid/nautiloid/lang/Atom", "isGeneric", "()Z"⟩ : MethodName)) (b := a_INTEGERS) (argsL := []) (rest := []) (Ls := #[.val (.int p1), .val (.ref b1), .val (.int (0 : Int32)), .val (.ref a_INTEGERS), .val (.int (0 : Int32))]) hown (own_w hw 29 rfl) (own_w hw 30 rfl) (own_w hw 32 rfl) (notFace_of_selects (args := #[]) (mvT hZ (own_w hw 32 rfl))) (own_w hw 31 rfl) (own_w hw 33 rfl) (own_w hw 3 rfl) (by decide) e25 (E_INTEGERS.ext old25.2) (rm1r l Z a0 hw [] a_INTEGERS b_INTEGERS_type h25 n0 (own_oldge old25) (F_INTEGERS_type.ext old25.2)) 0 (by decide) (by decide) (by decide) (by decide) (by rw [hml]; rfl) (lenOf pd_0 rfl) rfl (Nat.le_of_eq rfl) (hb hby at_110)
    have M26 := Fr.app N25 N26
    refine own_go st26 ?_
    show own_Go p e below _ T26 (mkF m 113 #[.val (.int p1), .val (.ref b1), .val (.int (0 : Int32)), .val (.ref a_INTEGERS), .val (.int (0 : Int32))] [(.int (0 : Int32))])
    refine own_go (fun t k => XS.iload X26.here hx rfl (hb hby at_113) rfl k) ?_
    show own_Go p e below _ T26 (mkF m 115 #[.val (.int p1), .val (.ref b1), .val (.int (0 : Int32)), .val (.ref a_INTEGERS), .val (.int (0 : Int32))] [(.int (0 : Int32)), (.int (0 : Int32))])
    refine own_go (fun t k => XS.icmpNo X26.here hx rfl (hb hby at_115) rfl (XT.ii_ne_f (by decide)) k) ?_
    show own_Go p e below _ T26 (mkF m 118 #[.val (.int p1), .val (.ref b1), .val (.int (0 : Int32)), .val (.ref a_INTEGERS), .val (.int (0 : Int32))] [])
    refine own_go (fun t k => XS.iconst X26.here hx rfl (hb hby at_118) k) ?_
    show own_Go p e below _ T26 (mkF m 119 #[.val (.int p1), .val (.ref b1), .val (.int (0 : Int32)), .val (.ref a_INTEGERS), .val (.int (0 : Int32))] [(.int (1 : Int32))])
    refine own_go (fun t k => XS.goto X26.here hx rfl (pc0 := 119) (pc' := 123) rfl (hb hby at_119) (by decide) (by decide) k) ?_
    show own_Go p e below _ T26 (mkF m 123 #[.val (.int p1), .val (.ref b1), .val (.int (0 : Int32)), .val (.ref a_INTEGERS), .val (.int (0 : Int32))] [(.int (1 : Int32))])
    refine own_retZ X26 hx hlk hret (hb hby at_123) (Or.inr rfl) (by decide) (by decide) ?_
    exact ⟨rfl, M26⟩
  · show own_Go p e below _ T25 (mkF m 91 #[.val (.int p1), .val (.ref b1), .unset, .unset, .unset] [(.int (1 : Int32))])
    refine own_go (fun t k => XS.istoreN X25.here hx rfl (hb hby at_91) rfl (l' := #[.val (.int p1), .val (.ref b1), .val (.int (1 : Int32)), .unset, .unset]) rfl k) ?_
    show own_Go p e below _ T25 (mkF m 92 #[.val (.int p1), .val (.ref b1), .val (.int (1 : Int32)), .unset, .unset] [])
    refine own_go (fun t k => XS.aloadN X25.here hx rfl (hb hby at_92) rfl rfl k) ?_
    show own_Go p e below _ T25 (mkF m 93 #[.val (.int p1), .val (.ref b1), .val (.int (1 : Int32)), .unset, .unset] [(.ref b1)])
    refine own_go (fun t k => XS.iloadN X25.here hx rfl (hb hby at_93) rfl k) ?_
    show own_Go p e below _ T25 (mkF m 94 #[.val (.int p1), .val (.ref b1), .val (.int (1 : Int32)), .unset, .unset] [(.int (1 : Int32)), (.ref b1)])
    refine own_go (own_ldR X25 hx hZ e25 (Ls := #[.val (.int p1), .val (.ref b1), .val (.int (1 : Int32)), .unset, .unset]) (rest := []) V25 rfl (j := (1 : Int32)) (by decide) (v := (.ref a_NATURALS)) rfl (hb hby at_94)) ?_
    show own_Go p e below _ T25 (mkF m 95 #[.val (.int p1), .val (.ref b1), .val (.int (1 : Int32)), .unset, .unset] [(.ref a_NATURALS)])
    refine own_go (fun t k => XS.astoreN X25.here hx rfl (hb hby at_95) rfl rfl (l' := #[.val (.int p1), .val (.ref b1), .val (.int (1 : Int32)), .val (.ref a_NATURALS), .unset]) rfl k) ?_
    show own_Go p e below _ T25 (mkF m 96 #[.val (.int p1), .val (.ref b1), .val (.int (1 : Int32)), .val (.ref a_NATURALS), .unset] [])
    refine own_go (fun t k => XS.iloadN X25.here hx rfl (hb hby at_96) rfl k) ?_
    show own_Go p e below _ T25 (mkF m 97 #[.val (.int p1), .val (.ref b1), .val (.int (1 : Int32)), .val (.ref a_NATURALS), .unset] [(.int (1 : Int32))])
    refine own_go (fun t k => XS.bipush X25.here hx rfl (hb hby at_97) k) ?_
    show own_Go p e below _ T25 (mkF m 99 #[.val (.int p1), .val (.ref b1), .val (.int (1 : Int32)), .val (.ref a_NATURALS), .unset] [(.int (8 : Int32)), (.int (1 : Int32))])
    refine own_go (fun t k => XS.icmpYes X25.here hx rfl (pc0 := 99) (pc' := 106) rfl (hb hby at_99) rfl (XT.ii_lt_t (by decide)) (by decide) (by decide) k) ?_
    show own_Go p e below _ T25 (mkF m 106 #[.val (.int p1), .val (.ref b1), .val (.int (1 : Int32)), .val (.ref a_NATURALS), .unset] [])
    refine own_go (fun t k => XS.iconst X25.here hx rfl (hb hby at_106) k) ?_
    show own_Go p e below _ T25 (mkF m 107 #[.val (.int p1), .val (.ref b1), .val (.int (1 : Int32)), .val (.ref a_NATURALS), .unset] [(.int (0 : Int32))])
    refine own_go (fun t k => XS.istore X25.here hx rfl (hb hby at_107) rfl (l' := #[.val (.int p1), .val (.ref b1), .val (.int (1 : Int32)), .val (.ref a_NATURALS), .val (.int (0 : Int32))]) rfl k) ?_
    show own_Go p e below _ T25 (mkF m 109 #[.val (.int p1), .val (.ref b1), .val (.int (1 : Int32)), .val (.ref a_NATURALS), .val (.int (0 : Int32))] [])
    refine own_go (fun t k => XS.aloadN X25.here hx rfl (hb hby at_109) rfl rfl k) ?_
    show own_Go p e below _ T25 (mkF m 110 #[.val (.int p1), .val (.ref b1), .val (.int (1 : Int32)), .val (.ref a_NATURALS), .val (.int (0 : Int32))] [(.ref a_NATURALS)])
    obtain ⟨_, T27, L27, X27, ⟨rfl, N27, e27⟩, st27⟩ := own_callV X25 hx hZ (y := (⟨"com/example/nautiloid/nautiloid/lang/Atom", "isGeneric", "()Z"⟩ : MethodName)) (z := (⟨"com/example/nautiloid/nautiloid/lang/Atom", "isGeneric", "()Z"⟩ : MethodName)) (b := a_NATURALS) (argsL := []) (rest := []) (Ls := #[.val (.int p1), .val (.ref b1), .val (.int (1 : Int32)), .val (.ref a_NATURALS), .val (.int (0 : Int32))]) hown (own_w hw 29 rfl) (own_w hw 30 rfl) (own_w hw 32 rfl) (notFace_of_selects (args := #[]) (mvT hZ (own_w hw 32 rfl))) (own_w hw 31 rfl) (own_w hw 33 rfl) (own_w hw 3 rfl) (by decide) e25 (E_NATURALS.ext old25.2) (rm1r l Z a0 hw [] a_NATURALS b_NATURALS_type h25 n0 (own_oldge old25) (F_NATURALS_type.ext old25.2)) 0 (by decide) (by decide) (by decide) (by decide) (by rw [hml]; rfl) (lenOf pd_0 rfl) rfl (Nat.le_of_eq rfl) (hb hby at_110)
    have M27 := Fr.app N25 N27
    refine own_go st27 ?_
    show own_Go p e below _ T27 (mkF m 113 #[.val (.int p1), .val (.ref b1), .val (.int (1 : Int32)), .val (.ref a_NATURALS), .val (.int (0 : Int32))] [(.int (0 : Int32))])
    refine own_go (fun t k => XS.iload X27.here hx rfl (hb hby at_113) rfl k) ?_
    show own_Go p e below _ T27 (mkF m 115 #[.val (.int p1), .val (.ref b1), .val (.int (1 : Int32)), .val (.ref a_NATURALS), .val (.int (0 : Int32))] [(.int (0 : Int32)), (.int (0 : Int32))])
    refine own_go (fun t k => XS.icmpNo X27.here hx rfl (hb hby at_115) rfl (XT.ii_ne_f (by decide)) k) ?_
    show own_Go p e below _ T27 (mkF m 118 #[.val (.int p1), .val (.ref b1), .val (.int (1 : Int32)), .val (.ref a_NATURALS), .val (.int (0 : Int32))] [])
    refine own_go (fun t k => XS.iconst X27.here hx rfl (hb hby at_118) k) ?_
    show own_Go p e below _ T27 (mkF m 119 #[.val (.int p1), .val (.ref b1), .val (.int (1 : Int32)), .val (.ref a_NATURALS), .val (.int (0 : Int32))] [(.int (1 : Int32))])
    refine own_go (fun t k => XS.goto X27.here hx rfl (pc0 := 119) (pc' := 123) rfl (hb hby at_119) (by decide) (by decide) k) ?_
    show own_Go p e below _ T27 (mkF m 123 #[.val (.int p1), .val (.ref b1), .val (.int (1 : Int32)), .val (.ref a_NATURALS), .val (.int (0 : Int32))] [(.int (1 : Int32))])
    refine own_retZ X27 hx hlk hret (hb hby at_123) (Or.inr rfl) (by decide) (by decide) ?_
    exact ⟨rfl, M27⟩
  · show own_Go p e below _ T25 (mkF m 91 #[.val (.int p1), .val (.ref b1), .unset, .unset, .unset] [(.int (2 : Int32))])
    refine own_go (fun t k => XS.istoreN X25.here hx rfl (hb hby at_91) rfl (l' := #[.val (.int p1), .val (.ref b1), .val (.int (2 : Int32)), .unset, .unset]) rfl k) ?_
    show own_Go p e below _ T25 (mkF m 92 #[.val (.int p1), .val (.ref b1), .val (.int (2 : Int32)), .unset, .unset] [])
    refine own_go (fun t k => XS.aloadN X25.here hx rfl (hb hby at_92) rfl rfl k) ?_
    show own_Go p e below _ T25 (mkF m 93 #[.val (.int p1), .val (.ref b1), .val (.int (2 : Int32)), .unset, .unset] [(.ref b1)])
    refine own_go (fun t k => XS.iloadN X25.here hx rfl (hb hby at_93) rfl k) ?_
    show own_Go p e below _ T25 (mkF m 94 #[.val (.int p1), .val (.ref b1), .val (.int (2 : Int32)), .unset, .unset] [(.int (2 : Int32)), (.ref b1)])
    refine own_go (own_ldR X25 hx hZ e25 (Ls := #[.val (.int p1), .val (.ref b1), .val (.int (2 : Int32)), .unset, .unset]) (rest := []) V25 rfl (j := (2 : Int32)) (by decide) (v := (.ref a_POSITIVE_NATURALS)) rfl (hb hby at_94)) ?_
    show own_Go p e below _ T25 (mkF m 95 #[.val (.int p1), .val (.ref b1), .val (.int (2 : Int32)), .unset, .unset] [(.ref a_POSITIVE_NATURALS)])
    refine own_go (fun t k => XS.astoreN X25.here hx rfl (hb hby at_95) rfl rfl (l' := #[.val (.int p1), .val (.ref b1), .val (.int (2 : Int32)), .val (.ref a_POSITIVE_NATURALS), .unset]) rfl k) ?_
    show own_Go p e below _ T25 (mkF m 96 #[.val (.int p1), .val (.ref b1), .val (.int (2 : Int32)), .val (.ref a_POSITIVE_NATURALS), .unset] [])
    refine own_go (fun t k => XS.iloadN X25.here hx rfl (hb hby at_96) rfl k) ?_
    show own_Go p e below _ T25 (mkF m 97 #[.val (.int p1), .val (.ref b1), .val (.int (2 : Int32)), .val (.ref a_POSITIVE_NATURALS), .unset] [(.int (2 : Int32))])
    refine own_go (fun t k => XS.bipush X25.here hx rfl (hb hby at_97) k) ?_
    show own_Go p e below _ T25 (mkF m 99 #[.val (.int p1), .val (.ref b1), .val (.int (2 : Int32)), .val (.ref a_POSITIVE_NATURALS), .unset] [(.int (8 : Int32)), (.int (2 : Int32))])
    refine own_go (fun t k => XS.icmpYes X25.here hx rfl (pc0 := 99) (pc' := 106) rfl (hb hby at_99) rfl (XT.ii_lt_t (by decide)) (by decide) (by decide) k) ?_
    show own_Go p e below _ T25 (mkF m 106 #[.val (.int p1), .val (.ref b1), .val (.int (2 : Int32)), .val (.ref a_POSITIVE_NATURALS), .unset] [])
    refine own_go (fun t k => XS.iconst X25.here hx rfl (hb hby at_106) k) ?_
    show own_Go p e below _ T25 (mkF m 107 #[.val (.int p1), .val (.ref b1), .val (.int (2 : Int32)), .val (.ref a_POSITIVE_NATURALS), .unset] [(.int (0 : Int32))])
    refine own_go (fun t k => XS.istore X25.here hx rfl (hb hby at_107) rfl (l' := #[.val (.int p1), .val (.ref b1), .val (.int (2 : Int32)), .val (.ref a_POSITIVE_NATURALS), .val (.int (0 : Int32))]) rfl k) ?_
    show own_Go p e below _ T25 (mkF m 109 #[.val (.int p1), .val (.ref b1), .val (.int (2 : Int32)), .val (.ref a_POSITIVE_NATURALS), .val (.int (0 : Int32))] [])
    refine own_go (fun t k => XS.aloadN X25.here hx rfl (hb hby at_109) rfl rfl k) ?_
    show own_Go p e below _ T25 (mkF m 110 #[.val (.int p1), .val (.ref b1), .val (.int (2 : Int32)), .val (.ref a_POSITIVE_NATURALS), .val (.int (0 : Int32))] [(.ref a_POSITIVE_NATURALS)])
    obtain ⟨_, T28, L28, X28, ⟨rfl, N28, e28⟩, st28⟩ := own_callV X25 hx hZ (y := (⟨"com/example/nautiloid/nautiloid/lang/Atom", "isGeneric", "()Z"⟩ : MethodName)) (z := (⟨"com/example/nautiloid/nautiloid/lang/Atom", "isGeneric", "()Z"⟩ : MethodName)) (b := a_POSITIVE_NATURALS) (argsL := []) (rest := []) (Ls := #[.val (.int p1), .val (.ref b1), .val (.int (2 : Int32)), .val (.ref a_POSITIVE_NATURALS), .val (.int (0 : Int32))]) hown (own_w hw 29 rfl) (own_w hw 30 rfl) (own_w hw 32 rfl) (notFace_of_selects (args := #[]) (mvT hZ (own_w hw 32 rfl))) (own_w hw 31 rfl) (own_w hw 33 rfl) (own_w hw 3 rfl) (by decide) e25 (E_POSITIVE_NATURALS.ext old25.2) (rm1r l Z a0 hw [] a_POSITIVE_NATURALS b_POSITIVE_NATURALS_type h25 n0 (own_oldge old25) (F_POSITIVE_NATURALS_type.ext old25.2)) 0 (by decide) (by decide) (by decide) (by decide) (by rw [hml]; rfl) (lenOf pd_0 rfl) rfl (Nat.le_of_eq rfl) (hb hby at_110)
    have M28 := Fr.app N25 N28
    refine own_go st28 ?_
    show own_Go p e below _ T28 (mkF m 113 #[.val (.int p1), .val (.ref b1), .val (.int (2 : Int32)), .val (.ref a_POSITIVE_NATURALS), .val (.int (0 : Int32))] [(.int (0 : Int32))])
    refine own_go (fun t k => XS.iload X28.here hx rfl (hb hby at_113) rfl k) ?_
    show own_Go p e below _ T28 (mkF m 115 #[.val (.int p1), .val (.ref b1), .val (.int (2 : Int32)), .val (.ref a_POSITIVE_NATURALS), .val (.int (0 : Int32))] [(.int (0 : Int32)), (.int (0 : Int32))])
    refine own_go (fun t k => XS.icmpNo X28.here hx rfl (hb hby at_115) rfl (XT.ii_ne_f (by decide)) k) ?_
    show own_Go p e below _ T28 (mkF m 118 #[.val (.int p1), .val (.ref b1), .val (.int (2 : Int32)), .val (.ref a_POSITIVE_NATURALS), .val (.int (0 : Int32))] [])
    refine own_go (fun t k => XS.iconst X28.here hx rfl (hb hby at_118) k) ?_
    show own_Go p e below _ T28 (mkF m 119 #[.val (.int p1), .val (.ref b1), .val (.int (2 : Int32)), .val (.ref a_POSITIVE_NATURALS), .val (.int (0 : Int32))] [(.int (1 : Int32))])
    refine own_go (fun t k => XS.goto X28.here hx rfl (pc0 := 119) (pc' := 123) rfl (hb hby at_119) (by decide) (by decide) k) ?_
    show own_Go p e below _ T28 (mkF m 123 #[.val (.int p1), .val (.ref b1), .val (.int (2 : Int32)), .val (.ref a_POSITIVE_NATURALS), .val (.int (0 : Int32))] [(.int (1 : Int32))])
    refine own_retZ X28 hx hlk hret (hb hby at_123) (Or.inr rfl) (by decide) (by decide) ?_
    exact ⟨rfl, M28⟩
  · show own_Go p e below _ T25 (mkF m 91 #[.val (.int p1), .val (.ref b1), .unset, .unset, .unset] [(.int (3 : Int32))])
    refine own_go (fun t k => XS.istoreN X25.here hx rfl (hb hby at_91) rfl (l' := #[.val (.int p1), .val (.ref b1), .val (.int (3 : Int32)), .unset, .unset]) rfl k) ?_
    show own_Go p e below _ T25 (mkF m 92 #[.val (.int p1), .val (.ref b1), .val (.int (3 : Int32)), .unset, .unset] [])
    refine own_go (fun t k => XS.aloadN X25.here hx rfl (hb hby at_92) rfl rfl k) ?_
    show own_Go p e below _ T25 (mkF m 93 #[.val (.int p1), .val (.ref b1), .val (.int (3 : Int32)), .unset, .unset] [(.ref b1)])
    refine own_go (fun t k => XS.iloadN X25.here hx rfl (hb hby at_93) rfl k) ?_
    show own_Go p e below _ T25 (mkF m 94 #[.val (.int p1), .val (.ref b1), .val (.int (3 : Int32)), .unset, .unset] [(.int (3 : Int32)), (.ref b1)])
    refine own_go (own_ldR X25 hx hZ e25 (Ls := #[.val (.int p1), .val (.ref b1), .val (.int (3 : Int32)), .unset, .unset]) (rest := []) V25 rfl (j := (3 : Int32)) (by decide) (v := (.ref a_BOOLEANS)) rfl (hb hby at_94)) ?_
    show own_Go p e below _ T25 (mkF m 95 #[.val (.int p1), .val (.ref b1), .val (.int (3 : Int32)), .unset, .unset] [(.ref a_BOOLEANS)])
    refine own_go (fun t k => XS.astoreN X25.here hx rfl (hb hby at_95) rfl rfl (l' := #[.val (.int p1), .val (.ref b1), .val (.int (3 : Int32)), .val (.ref a_BOOLEANS), .unset]) rfl k) ?_
    show own_Go p e below _ T25 (mkF m 96 #[.val (.int p1), .val (.ref b1), .val (.int (3 : Int32)), .val (.ref a_BOOLEANS), .unset] [])
    refine own_go (fun t k => XS.iloadN X25.here hx rfl (hb hby at_96) rfl k) ?_
    show own_Go p e below _ T25 (mkF m 97 #[.val (.int p1), .val (.ref b1), .val (.int (3 : Int32)), .val (.ref a_BOOLEANS), .unset] [(.int (3 : Int32))])
    refine own_go (fun t k => XS.bipush X25.here hx rfl (hb hby at_97) k) ?_
    show own_Go p e below _ T25 (mkF m 99 #[.val (.int p1), .val (.ref b1), .val (.int (3 : Int32)), .val (.ref a_BOOLEANS), .unset] [(.int (8 : Int32)), (.int (3 : Int32))])
    refine own_go (fun t k => XS.icmpYes X25.here hx rfl (pc0 := 99) (pc' := 106) rfl (hb hby at_99) rfl (XT.ii_lt_t (by decide)) (by decide) (by decide) k) ?_
    show own_Go p e below _ T25 (mkF m 106 #[.val (.int p1), .val (.ref b1), .val (.int (3 : Int32)), .val (.ref a_BOOLEANS), .unset] [])
    refine own_go (fun t k => XS.iconst X25.here hx rfl (hb hby at_106) k) ?_
    show own_Go p e below _ T25 (mkF m 107 #[.val (.int p1), .val (.ref b1), .val (.int (3 : Int32)), .val (.ref a_BOOLEANS), .unset] [(.int (0 : Int32))])
    refine own_go (fun t k => XS.istore X25.here hx rfl (hb hby at_107) rfl (l' := #[.val (.int p1), .val (.ref b1), .val (.int (3 : Int32)), .val (.ref a_BOOLEANS), .val (.int (0 : Int32))]) rfl k) ?_
    show own_Go p e below _ T25 (mkF m 109 #[.val (.int p1), .val (.ref b1), .val (.int (3 : Int32)), .val (.ref a_BOOLEANS), .val (.int (0 : Int32))] [])
    refine own_go (fun t k => XS.aloadN X25.here hx rfl (hb hby at_109) rfl rfl k) ?_
    show own_Go p e below _ T25 (mkF m 110 #[.val (.int p1), .val (.ref b1), .val (.int (3 : Int32)), .val (.ref a_BOOLEANS), .val (.int (0 : Int32))] [(.ref a_BOOLEANS)])
    obtain ⟨_, T29, L29, X29, ⟨rfl, N29, e29⟩, st29⟩ := own_callV X25 hx hZ (y := (⟨"com/example/nautiloid/nautiloid/lang/Atom", "isGeneric", "()Z"⟩ : MethodName)) (z := (⟨"com/example/nautiloid/nautiloid/lang/Atom", "isGeneric", "()Z"⟩ : MethodName)) (b := a_BOOLEANS) (argsL := []) (rest := []) (Ls := #[.val (.int p1), .val (.ref b1), .val (.int (3 : Int32)), .val (.ref a_BOOLEANS), .val (.int (0 : Int32))]) hown (own_w hw 29 rfl) (own_w hw 30 rfl) (own_w hw 32 rfl) (notFace_of_selects (args := #[]) (mvT hZ (own_w hw 32 rfl))) (own_w hw 31 rfl) (own_w hw 33 rfl) (own_w hw 3 rfl) (by decide) e25 (E_BOOLEANS.ext old25.2) (rm1r l Z a0 hw [] a_BOOLEANS b_BOOLEANS_type h25 n0 (own_oldge old25) (F_BOOLEANS_type.ext old25.2)) 0 (by decide) (by decide) (by decide) (by decide) (by rw [hml]; rfl) (lenOf pd_0 rfl) rfl (Nat.le_of_eq rfl) (hb hby at_110)
    have M29 := Fr.app N25 N29
    refine own_go st29 ?_
    show own_Go p e below _ T29 (mkF m 113 #[.val (.int p1), .val (.ref b1), .val (.int (3 : Int32)), .val (.ref a_BOOLEANS), .val (.int (0 : Int32))] [(.int (0 : Int32))])
    refine own_go (fun t k => XS.iload X29.here hx rfl (hb hby at_113) rfl k) ?_
    show own_Go p e below _ T29 (mkF m 115 #[.val (.int p1), .val (.ref b1), .val (.int (3 : Int32)), .val (.ref a_BOOLEANS), .val (.int (0 : Int32))] [(.int (0 : Int32)), (.int (0 : Int32))])
    refine own_go (fun t k => XS.icmpNo X29.here hx rfl (hb hby at_115) rfl (XT.ii_ne_f (by decide)) k) ?_
    show own_Go p e below _ T29 (mkF m 118 #[.val (.int p1), .val (.ref b1), .val (.int (3 : Int32)), .val (.ref a_BOOLEANS), .val (.int (0 : Int32))] [])
    refine own_go (fun t k => XS.iconst X29.here hx rfl (hb hby at_118) k) ?_
    show own_Go p e below _ T29 (mkF m 119 #[.val (.int p1), .val (.ref b1), .val (.int (3 : Int32)), .val (.ref a_BOOLEANS), .val (.int (0 : Int32))] [(.int (1 : Int32))])
    refine own_go (fun t k => XS.goto X29.here hx rfl (pc0 := 119) (pc' := 123) rfl (hb hby at_119) (by decide) (by decide) k) ?_
    show own_Go p e below _ T29 (mkF m 123 #[.val (.int p1), .val (.ref b1), .val (.int (3 : Int32)), .val (.ref a_BOOLEANS), .val (.int (0 : Int32))] [(.int (1 : Int32))])
    refine own_retZ X29 hx hlk hret (hb hby at_123) (Or.inr rfl) (by decide) (by decide) ?_
    exact ⟨rfl, M29⟩
  · show own_Go p e below _ T25 (mkF m 91 #[.val (.int p1), .val (.ref b1), .unset, .unset, .unset] [(.int (4 : Int32))])
    refine own_go (fun t k => XS.istoreN X25.here hx rfl (hb hby at_91) rfl (l' := #[.val (.int p1), .val (.ref b1), .val (.int (4 : Int32)), .unset, .unset]) rfl k) ?_
    show own_Go p e below _ T25 (mkF m 92 #[.val (.int p1), .val (.ref b1), .val (.int (4 : Int32)), .unset, .unset] [])
    refine own_go (fun t k => XS.aloadN X25.here hx rfl (hb hby at_92) rfl rfl k) ?_
    show own_Go p e below _ T25 (mkF m 93 #[.val (.int p1), .val (.ref b1), .val (.int (4 : Int32)), .unset, .unset] [(.ref b1)])
    refine own_go (fun t k => XS.iloadN X25.here hx rfl (hb hby at_93) rfl k) ?_
    show own_Go p e below _ T25 (mkF m 94 #[.val (.int p1), .val (.ref b1), .val (.int (4 : Int32)), .unset, .unset] [(.int (4 : Int32)), (.ref b1)])
    refine own_go (own_ldR X25 hx hZ e25 (Ls := #[.val (.int p1), .val (.ref b1), .val (.int (4 : Int32)), .unset, .unset]) (rest := []) V25 rfl (j := (4 : Int32)) (by decide) (v := (.ref a_TRUE)) rfl (hb hby at_94)) ?_
    show own_Go p e below _ T25 (mkF m 95 #[.val (.int p1), .val (.ref b1), .val (.int (4 : Int32)), .unset, .unset] [(.ref a_TRUE)])
    refine own_go (fun t k => XS.astoreN X25.here hx rfl (hb hby at_95) rfl rfl (l' := #[.val (.int p1), .val (.ref b1), .val (.int (4 : Int32)), .val (.ref a_TRUE), .unset]) rfl k) ?_
    show own_Go p e below _ T25 (mkF m 96 #[.val (.int p1), .val (.ref b1), .val (.int (4 : Int32)), .val (.ref a_TRUE), .unset] [])
    refine own_go (fun t k => XS.iloadN X25.here hx rfl (hb hby at_96) rfl k) ?_
    show own_Go p e below _ T25 (mkF m 97 #[.val (.int p1), .val (.ref b1), .val (.int (4 : Int32)), .val (.ref a_TRUE), .unset] [(.int (4 : Int32))])
    refine own_go (fun t k => XS.bipush X25.here hx rfl (hb hby at_97) k) ?_
    show own_Go p e below _ T25 (mkF m 99 #[.val (.int p1), .val (.ref b1), .val (.int (4 : Int32)), .val (.ref a_TRUE), .unset] [(.int (8 : Int32)), (.int (4 : Int32))])
    refine own_go (fun t k => XS.icmpYes X25.here hx rfl (pc0 := 99) (pc' := 106) rfl (hb hby at_99) rfl (XT.ii_lt_t (by decide)) (by decide) (by decide) k) ?_
    show own_Go p e below _ T25 (mkF m 106 #[.val (.int p1), .val (.ref b1), .val (.int (4 : Int32)), .val (.ref a_TRUE), .unset] [])
    refine own_go (fun t k => XS.iconst X25.here hx rfl (hb hby at_106) k) ?_
    show own_Go p e below _ T25 (mkF m 107 #[.val (.int p1), .val (.ref b1), .val (.int (4 : Int32)), .val (.ref a_TRUE), .unset] [(.int (0 : Int32))])
    refine own_go (fun t k => XS.istore X25.here hx rfl (hb hby at_107) rfl (l' := #[.val (.int p1), .val (.ref b1), .val (.int (4 : Int32)), .val (.ref a_TRUE), .val (.int (0 : Int32))]) rfl k) ?_
    show own_Go p e below _ T25 (mkF m 109 #[.val (.int p1), .val (.ref b1), .val (.int (4 : Int32)), .val (.ref a_TRUE), .val (.int (0 : Int32))] [])
    refine own_go (fun t k => XS.aloadN X25.here hx rfl (hb hby at_109) rfl rfl k) ?_
    show own_Go p e below _ T25 (mkF m 110 #[.val (.int p1), .val (.ref b1), .val (.int (4 : Int32)), .val (.ref a_TRUE), .val (.int (0 : Int32))] [(.ref a_TRUE)])
    obtain ⟨_, T30, L30, X30, ⟨rfl, N30, e30⟩, st30⟩ := own_callV X25 hx hZ (y := (⟨"com/example/nautiloid/nautiloid/lang/Atom", "isGeneric", "()Z"⟩ : MethodName)) (z := (⟨"com/example/nautiloid/nautiloid/lang/Atom", "isGeneric", "()Z"⟩ : MethodName)) (b := a_TRUE) (argsL := []) (rest := []) (Ls := #[.val (.int p1), .val (.ref b1), .val (.int (4 : Int32)), .val (.ref a_TRUE), .val (.int (0 : Int32))]) hown (own_w hw 29 rfl) (own_w hw 30 rfl) (own_w hw 32 rfl) (notFace_of_selects (args := #[]) (mvT hZ (own_w hw 32 rfl))) (own_w hw 31 rfl) (own_w hw 33 rfl) (own_w hw 3 rfl) (by decide) e25 (E_TRUE.ext old25.2) (rm1r l Z a0 hw [] a_TRUE b_TRUE_type h25 n0 (own_oldge old25) (F_TRUE_type.ext old25.2)) 0 (by decide) (by decide) (by decide) (by decide) (by rw [hml]; rfl) (lenOf pd_0 rfl) rfl (Nat.le_of_eq rfl) (hb hby at_110)
    have M30 := Fr.app N25 N30
    refine own_go st30 ?_
    show own_Go p e below _ T30 (mkF m 113 #[.val (.int p1), .val (.ref b1), .val (.int (4 : Int32)), .val (.ref a_TRUE), .val (.int (0 : Int32))] [(.int (0 : Int32))])
    refine own_go (fun t k => XS.iload X30.here hx rfl (hb hby at_113) rfl k) ?_
    show own_Go p e below _ T30 (mkF m 115 #[.val (.int p1), .val (.ref b1), .val (.int (4 : Int32)), .val (.ref a_TRUE), .val (.int (0 : Int32))] [(.int (0 : Int32)), (.int (0 : Int32))])
    refine own_go (fun t k => XS.icmpNo X30.here hx rfl (hb hby at_115) rfl (XT.ii_ne_f (by decide)) k) ?_
    show own_Go p e below _ T30 (mkF m 118 #[.val (.int p1), .val (.ref b1), .val (.int (4 : Int32)), .val (.ref a_TRUE), .val (.int (0 : Int32))] [])
    refine own_go (fun t k => XS.iconst X30.here hx rfl (hb hby at_118) k) ?_
    show own_Go p e below _ T30 (mkF m 119 #[.val (.int p1), .val (.ref b1), .val (.int (4 : Int32)), .val (.ref a_TRUE), .val (.int (0 : Int32))] [(.int (1 : Int32))])
    refine own_go (fun t k => XS.goto X30.here hx rfl (pc0 := 119) (pc' := 123) rfl (hb hby at_119) (by decide) (by decide) k) ?_
    show own_Go p e below _ T30 (mkF m 123 #[.val (.int p1), .val (.ref b1), .val (.int (4 : Int32)), .val (.ref a_TRUE), .val (.int (0 : Int32))] [(.int (1 : Int32))])
    refine own_retZ X30 hx hlk hret (hb hby at_123) (Or.inr rfl) (by decide) (by decide) ?_
    exact ⟨rfl, M30⟩
  · show own_Go p e below _ T25 (mkF m 91 #[.val (.int p1), .val (.ref b1), .unset, .unset, .unset] [(.int (5 : Int32))])
    refine own_go (fun t k => XS.istoreN X25.here hx rfl (hb hby at_91) rfl (l' := #[.val (.int p1), .val (.ref b1), .val (.int (5 : Int32)), .unset, .unset]) rfl k) ?_
    show own_Go p e below _ T25 (mkF m 92 #[.val (.int p1), .val (.ref b1), .val (.int (5 : Int32)), .unset, .unset] [])
    refine own_go (fun t k => XS.aloadN X25.here hx rfl (hb hby at_92) rfl rfl k) ?_
    show own_Go p e below _ T25 (mkF m 93 #[.val (.int p1), .val (.ref b1), .val (.int (5 : Int32)), .unset, .unset] [(.ref b1)])
    refine own_go (fun t k => XS.iloadN X25.here hx rfl (hb hby at_93) rfl k) ?_
    show own_Go p e below _ T25 (mkF m 94 #[.val (.int p1), .val (.ref b1), .val (.int (5 : Int32)), .unset, .unset] [(.int (5 : Int32)), (.ref b1)])
    refine own_go (own_ldR X25 hx hZ e25 (Ls := #[.val (.int p1), .val (.ref b1), .val (.int (5 : Int32)), .unset, .unset]) (rest := []) V25 rfl (j := (5 : Int32)) (by decide) (v := (.ref a_FALSE)) rfl (hb hby at_94)) ?_
    show own_Go p e below _ T25 (mkF m 95 #[.val (.int p1), .val (.ref b1), .val (.int (5 : Int32)), .unset, .unset] [(.ref a_FALSE)])
    refine own_go (fun t k => XS.astoreN X25.here hx rfl (hb hby at_95) rfl rfl (l' := #[.val (.int p1), .val (.ref b1), .val (.int (5 : Int32)), .val (.ref a_FALSE), .unset]) rfl k) ?_
    show own_Go p e below _ T25 (mkF m 96 #[.val (.int p1), .val (.ref b1), .val (.int (5 : Int32)), .val (.ref a_FALSE), .unset] [])
    refine own_go (fun t k => XS.iloadN X25.here hx rfl (hb hby at_96) rfl k) ?_
    show own_Go p e below _ T25 (mkF m 97 #[.val (.int p1), .val (.ref b1), .val (.int (5 : Int32)), .val (.ref a_FALSE), .unset] [(.int (5 : Int32))])
    refine own_go (fun t k => XS.bipush X25.here hx rfl (hb hby at_97) k) ?_
    show own_Go p e below _ T25 (mkF m 99 #[.val (.int p1), .val (.ref b1), .val (.int (5 : Int32)), .val (.ref a_FALSE), .unset] [(.int (8 : Int32)), (.int (5 : Int32))])
    refine own_go (fun t k => XS.icmpYes X25.here hx rfl (pc0 := 99) (pc' := 106) rfl (hb hby at_99) rfl (XT.ii_lt_t (by decide)) (by decide) (by decide) k) ?_
    show own_Go p e below _ T25 (mkF m 106 #[.val (.int p1), .val (.ref b1), .val (.int (5 : Int32)), .val (.ref a_FALSE), .unset] [])
    refine own_go (fun t k => XS.iconst X25.here hx rfl (hb hby at_106) k) ?_
    show own_Go p e below _ T25 (mkF m 107 #[.val (.int p1), .val (.ref b1), .val (.int (5 : Int32)), .val (.ref a_FALSE), .unset] [(.int (0 : Int32))])
    refine own_go (fun t k => XS.istore X25.here hx rfl (hb hby at_107) rfl (l' := #[.val (.int p1), .val (.ref b1), .val (.int (5 : Int32)), .val (.ref a_FALSE), .val (.int (0 : Int32))]) rfl k) ?_
    show own_Go p e below _ T25 (mkF m 109 #[.val (.int p1), .val (.ref b1), .val (.int (5 : Int32)), .val (.ref a_FALSE), .val (.int (0 : Int32))] [])
    refine own_go (fun t k => XS.aloadN X25.here hx rfl (hb hby at_109) rfl rfl k) ?_
    show own_Go p e below _ T25 (mkF m 110 #[.val (.int p1), .val (.ref b1), .val (.int (5 : Int32)), .val (.ref a_FALSE), .val (.int (0 : Int32))] [(.ref a_FALSE)])
    obtain ⟨_, T31, L31, X31, ⟨rfl, N31, e31⟩, st31⟩ := own_callV X25 hx hZ (y := (⟨"com/example/nautiloid/nautiloid/lang/Atom", "isGeneric", "()Z"⟩ : MethodName)) (z := (⟨"com/example/nautiloid/nautiloid/lang/Atom", "isGeneric", "()Z"⟩ : MethodName)) (b := a_FALSE) (argsL := []) (rest := []) (Ls := #[.val (.int p1), .val (.ref b1), .val (.int (5 : Int32)), .val (.ref a_FALSE), .val (.int (0 : Int32))]) hown (own_w hw 29 rfl) (own_w hw 30 rfl) (own_w hw 32 rfl) (notFace_of_selects (args := #[]) (mvT hZ (own_w hw 32 rfl))) (own_w hw 31 rfl) (own_w hw 33 rfl) (own_w hw 3 rfl) (by decide) e25 (E_FALSE.ext old25.2) (rm1r l Z a0 hw [] a_FALSE b_TRUE_type h25 n0 (own_oldge old25) (F_FALSE_type.ext old25.2)) 0 (by decide) (by decide) (by decide) (by decide) (by rw [hml]; rfl) (lenOf pd_0 rfl) rfl (Nat.le_of_eq rfl) (hb hby at_110)
    have M31 := Fr.app N25 N31
    refine own_go st31 ?_
    show own_Go p e below _ T31 (mkF m 113 #[.val (.int p1), .val (.ref b1), .val (.int (5 : Int32)), .val (.ref a_FALSE), .val (.int (0 : Int32))] [(.int (0 : Int32))])
    refine own_go (fun t k => XS.iload X31.here hx rfl (hb hby at_113) rfl k) ?_
    show own_Go p e below _ T31 (mkF m 115 #[.val (.int p1), .val (.ref b1), .val (.int (5 : Int32)), .val (.ref a_FALSE), .val (.int (0 : Int32))] [(.int (0 : Int32)), (.int (0 : Int32))])
    refine own_go (fun t k => XS.icmpNo X31.here hx rfl (hb hby at_115) rfl (XT.ii_ne_f (by decide)) k) ?_
    show own_Go p e below _ T31 (mkF m 118 #[.val (.int p1), .val (.ref b1), .val (.int (5 : Int32)), .val (.ref a_FALSE), .val (.int (0 : Int32))] [])
    refine own_go (fun t k => XS.iconst X31.here hx rfl (hb hby at_118) k) ?_
    show own_Go p e below _ T31 (mkF m 119 #[.val (.int p1), .val (.ref b1), .val (.int (5 : Int32)), .val (.ref a_FALSE), .val (.int (0 : Int32))] [(.int (1 : Int32))])
    refine own_go (fun t k => XS.goto X31.here hx rfl (pc0 := 119) (pc' := 123) rfl (hb hby at_119) (by decide) (by decide) k) ?_
    show own_Go p e below _ T31 (mkF m 123 #[.val (.int p1), .val (.ref b1), .val (.int (5 : Int32)), .val (.ref a_FALSE), .val (.int (0 : Int32))] [(.int (1 : Int32))])
    refine own_retZ X31 hx hlk hret (hb hby at_123) (Or.inr rfl) (by decide) (by decide) ?_
    exact ⟨rfl, M31⟩
  · show own_Go p e below _ T25 (mkF m 91 #[.val (.int p1), .val (.ref b1), .unset, .unset, .unset] [(.int (6 : Int32))])
    refine own_go (fun t k => XS.istoreN X25.here hx rfl (hb hby at_91) rfl (l' := #[.val (.int p1), .val (.ref b1), .val (.int (6 : Int32)), .unset, .unset]) rfl k) ?_
    show own_Go p e below _ T25 (mkF m 92 #[.val (.int p1), .val (.ref b1), .val (.int (6 : Int32)), .unset, .unset] [])
    refine own_go (fun t k => XS.aloadN X25.here hx rfl (hb hby at_92) rfl rfl k) ?_
    show own_Go p e below _ T25 (mkF m 93 #[.val (.int p1), .val (.ref b1), .val (.int (6 : Int32)), .unset, .unset] [(.ref b1)])
    refine own_go (fun t k => XS.iloadN X25.here hx rfl (hb hby at_93) rfl k) ?_
    show own_Go p e below _ T25 (mkF m 94 #[.val (.int p1), .val (.ref b1), .val (.int (6 : Int32)), .unset, .unset] [(.int (6 : Int32)), (.ref b1)])
    refine own_go (own_ldR X25 hx hZ e25 (Ls := #[.val (.int p1), .val (.ref b1), .val (.int (6 : Int32)), .unset, .unset]) (rest := []) V25 rfl (j := (6 : Int32)) (by decide) (v := (.ref a_SUCCESSOR)) rfl (hb hby at_94)) ?_
    show own_Go p e below _ T25 (mkF m 95 #[.val (.int p1), .val (.ref b1), .val (.int (6 : Int32)), .unset, .unset] [(.ref a_SUCCESSOR)])
    refine own_go (fun t k => XS.astoreN X25.here hx rfl (hb hby at_95) rfl rfl (l' := #[.val (.int p1), .val (.ref b1), .val (.int (6 : Int32)), .val (.ref a_SUCCESSOR), .unset]) rfl k) ?_
    show own_Go p e below _ T25 (mkF m 96 #[.val (.int p1), .val (.ref b1), .val (.int (6 : Int32)), .val (.ref a_SUCCESSOR), .unset] [])
    refine own_go (fun t k => XS.iloadN X25.here hx rfl (hb hby at_96) rfl k) ?_
    show own_Go p e below _ T25 (mkF m 97 #[.val (.int p1), .val (.ref b1), .val (.int (6 : Int32)), .val (.ref a_SUCCESSOR), .unset] [(.int (6 : Int32))])
    refine own_go (fun t k => XS.bipush X25.here hx rfl (hb hby at_97) k) ?_
    show own_Go p e below _ T25 (mkF m 99 #[.val (.int p1), .val (.ref b1), .val (.int (6 : Int32)), .val (.ref a_SUCCESSOR), .unset] [(.int (8 : Int32)), (.int (6 : Int32))])
    refine own_go (fun t k => XS.icmpYes X25.here hx rfl (pc0 := 99) (pc' := 106) rfl (hb hby at_99) rfl (XT.ii_lt_t (by decide)) (by decide) (by decide) k) ?_
    show own_Go p e below _ T25 (mkF m 106 #[.val (.int p1), .val (.ref b1), .val (.int (6 : Int32)), .val (.ref a_SUCCESSOR), .unset] [])
    refine own_go (fun t k => XS.iconst X25.here hx rfl (hb hby at_106) k) ?_
    show own_Go p e below _ T25 (mkF m 107 #[.val (.int p1), .val (.ref b1), .val (.int (6 : Int32)), .val (.ref a_SUCCESSOR), .unset] [(.int (0 : Int32))])
    refine own_go (fun t k => XS.istore X25.here hx rfl (hb hby at_107) rfl (l' := #[.val (.int p1), .val (.ref b1), .val (.int (6 : Int32)), .val (.ref a_SUCCESSOR), .val (.int (0 : Int32))]) rfl k) ?_
    show own_Go p e below _ T25 (mkF m 109 #[.val (.int p1), .val (.ref b1), .val (.int (6 : Int32)), .val (.ref a_SUCCESSOR), .val (.int (0 : Int32))] [])
    refine own_go (fun t k => XS.aloadN X25.here hx rfl (hb hby at_109) rfl rfl k) ?_
    show own_Go p e below _ T25 (mkF m 110 #[.val (.int p1), .val (.ref b1), .val (.int (6 : Int32)), .val (.ref a_SUCCESSOR), .val (.int (0 : Int32))] [(.ref a_SUCCESSOR)])
    obtain ⟨_, T32, L32, X32, ⟨rfl, N32, e32⟩, st32⟩ := own_callV X25 hx hZ (y := (⟨"com/example/nautiloid/nautiloid/lang/Atom", "isGeneric", "()Z"⟩ : MethodName)) (z := (⟨"com/example/nautiloid/nautiloid/lang/Atom", "isGeneric", "()Z"⟩ : MethodName)) (b := a_SUCCESSOR) (argsL := []) (rest := []) (Ls := #[.val (.int p1), .val (.ref b1), .val (.int (6 : Int32)), .val (.ref a_SUCCESSOR), .val (.int (0 : Int32))]) hown (own_w hw 29 rfl) (own_w hw 30 rfl) (own_w hw 32 rfl) (notFace_of_selects (args := #[]) (mvT hZ (own_w hw 32 rfl))) (own_w hw 31 rfl) (own_w hw 33 rfl) (own_w hw 3 rfl) (by decide) e25 (E_SUCCESSOR.ext old25.2) (rm1r l Z a0 hw [] a_SUCCESSOR b_SUCCESSOR_type h25 n0 (own_oldge old25) (F_SUCCESSOR_type.ext old25.2)) 0 (by decide) (by decide) (by decide) (by decide) (by rw [hml]; rfl) (lenOf pd_0 rfl) rfl (Nat.le_of_eq rfl) (hb hby at_110)
    have M32 := Fr.app N25 N32
    refine own_go st32 ?_
    show own_Go p e below _ T32 (mkF m 113 #[.val (.int p1), .val (.ref b1), .val (.int (6 : Int32)), .val (.ref a_SUCCESSOR), .val (.int (0 : Int32))] [(.int (0 : Int32))])
    refine own_go (fun t k => XS.iload X32.here hx rfl (hb hby at_113) rfl k) ?_
    show own_Go p e below _ T32 (mkF m 115 #[.val (.int p1), .val (.ref b1), .val (.int (6 : Int32)), .val (.ref a_SUCCESSOR), .val (.int (0 : Int32))] [(.int (0 : Int32)), (.int (0 : Int32))])
    refine own_go (fun t k => XS.icmpNo X32.here hx rfl (hb hby at_115) rfl (XT.ii_ne_f (by decide)) k) ?_
    show own_Go p e below _ T32 (mkF m 118 #[.val (.int p1), .val (.ref b1), .val (.int (6 : Int32)), .val (.ref a_SUCCESSOR), .val (.int (0 : Int32))] [])
    refine own_go (fun t k => XS.iconst X32.here hx rfl (hb hby at_118) k) ?_
    show own_Go p e below _ T32 (mkF m 119 #[.val (.int p1), .val (.ref b1), .val (.int (6 : Int32)), .val (.ref a_SUCCESSOR), .val (.int (0 : Int32))] [(.int (1 : Int32))])
    refine own_go (fun t k => XS.goto X32.here hx rfl (pc0 := 119) (pc' := 123) rfl (hb hby at_119) (by decide) (by decide) k) ?_
    show own_Go p e below _ T32 (mkF m 123 #[.val (.int p1), .val (.ref b1), .val (.int (6 : Int32)), .val (.ref a_SUCCESSOR), .val (.int (0 : Int32))] [(.int (1 : Int32))])
    refine own_retZ X32 hx hlk hret (hb hby at_123) (Or.inr rfl) (by decide) (by decide) ?_
    exact ⟨rfl, M32⟩
  · show own_Go p e below _ T25 (mkF m 91 #[.val (.int p1), .val (.ref b1), .unset, .unset, .unset] [(.int (7 : Int32))])
    refine own_go (fun t k => XS.istoreN X25.here hx rfl (hb hby at_91) rfl (l' := #[.val (.int p1), .val (.ref b1), .val (.int (7 : Int32)), .unset, .unset]) rfl k) ?_
    show own_Go p e below _ T25 (mkF m 92 #[.val (.int p1), .val (.ref b1), .val (.int (7 : Int32)), .unset, .unset] [])
    refine own_go (fun t k => XS.aloadN X25.here hx rfl (hb hby at_92) rfl rfl k) ?_
    show own_Go p e below _ T25 (mkF m 93 #[.val (.int p1), .val (.ref b1), .val (.int (7 : Int32)), .unset, .unset] [(.ref b1)])
    refine own_go (fun t k => XS.iloadN X25.here hx rfl (hb hby at_93) rfl k) ?_
    show own_Go p e below _ T25 (mkF m 94 #[.val (.int p1), .val (.ref b1), .val (.int (7 : Int32)), .unset, .unset] [(.int (7 : Int32)), (.ref b1)])
    refine own_go (own_ldR X25 hx hZ e25 (Ls := #[.val (.int p1), .val (.ref b1), .val (.int (7 : Int32)), .unset, .unset]) (rest := []) V25 rfl (j := (7 : Int32)) (by decide) (v := (.ref a_PREDECESSOR)) rfl (hb hby at_94)) ?_
    show own_Go p e below _ T25 (mkF m 95 #[.val (.int p1), .val (.ref b1), .val (.int (7 : Int32)), .unset, .unset] [(.ref a_PREDECESSOR)])
    refine own_go (fun t k => XS.astoreN X25.here hx rfl (hb hby at_95) rfl rfl (l' := #[.val (.int p1), .val (.ref b1), .val (.int (7 : Int32)), .val (.ref a_PREDECESSOR), .unset]) rfl k) ?_
    show own_Go p e below _ T25 (mkF m 96 #[.val (.int p1), .val (.ref b1), .val (.int (7 : Int32)), .val (.ref a_PREDECESSOR), .unset] [])
    refine own_go (fun t k => XS.iloadN X25.here hx rfl (hb hby at_96) rfl k) ?_
    show own_Go p e below _ T25 (mkF m 97 #[.val (.int p1), .val (.ref b1), .val (.int (7 : Int32)), .val (.ref a_PREDECESSOR), .unset] [(.int (7 : Int32))])
    refine own_go (fun t k => XS.bipush X25.here hx rfl (hb hby at_97) k) ?_
    show own_Go p e below _ T25 (mkF m 99 #[.val (.int p1), .val (.ref b1), .val (.int (7 : Int32)), .val (.ref a_PREDECESSOR), .unset] [(.int (8 : Int32)), (.int (7 : Int32))])
    refine own_go (fun t k => XS.icmpYes X25.here hx rfl (pc0 := 99) (pc' := 106) rfl (hb hby at_99) rfl (XT.ii_lt_t (by decide)) (by decide) (by decide) k) ?_
    show own_Go p e below _ T25 (mkF m 106 #[.val (.int p1), .val (.ref b1), .val (.int (7 : Int32)), .val (.ref a_PREDECESSOR), .unset] [])
    refine own_go (fun t k => XS.iconst X25.here hx rfl (hb hby at_106) k) ?_
    show own_Go p e below _ T25 (mkF m 107 #[.val (.int p1), .val (.ref b1), .val (.int (7 : Int32)), .val (.ref a_PREDECESSOR), .unset] [(.int (0 : Int32))])
    refine own_go (fun t k => XS.istore X25.here hx rfl (hb hby at_107) rfl (l' := #[.val (.int p1), .val (.ref b1), .val (.int (7 : Int32)), .val (.ref a_PREDECESSOR), .val (.int (0 : Int32))]) rfl k) ?_
    show own_Go p e below _ T25 (mkF m 109 #[.val (.int p1), .val (.ref b1), .val (.int (7 : Int32)), .val (.ref a_PREDECESSOR), .val (.int (0 : Int32))] [])
    refine own_go (fun t k => XS.aloadN X25.here hx rfl (hb hby at_109) rfl rfl k) ?_
    show own_Go p e below _ T25 (mkF m 110 #[.val (.int p1), .val (.ref b1), .val (.int (7 : Int32)), .val (.ref a_PREDECESSOR), .val (.int (0 : Int32))] [(.ref a_PREDECESSOR)])
    obtain ⟨_, T33, L33, X33, ⟨rfl, N33, e33⟩, st33⟩ := own_callV X25 hx hZ (y := (⟨"com/example/nautiloid/nautiloid/lang/Atom", "isGeneric", "()Z"⟩ : MethodName)) (z := (⟨"com/example/nautiloid/nautiloid/lang/Atom", "isGeneric", "()Z"⟩ : MethodName)) (b := a_PREDECESSOR) (argsL := []) (rest := []) (Ls := #[.val (.int p1), .val (.ref b1), .val (.int (7 : Int32)), .val (.ref a_PREDECESSOR), .val (.int (0 : Int32))]) hown (own_w hw 29 rfl) (own_w hw 30 rfl) (own_w hw 32 rfl) (notFace_of_selects (args := #[]) (mvT hZ (own_w hw 32 rfl))) (own_w hw 31 rfl) (own_w hw 33 rfl) (own_w hw 3 rfl) (by decide) e25 (E_PREDECESSOR.ext old25.2) (rm1r l Z a0 hw [] a_PREDECESSOR b_PREDECESSOR_type h25 n0 (own_oldge old25) (F_PREDECESSOR_type.ext old25.2)) 0 (by decide) (by decide) (by decide) (by decide) (by rw [hml]; rfl) (lenOf pd_0 rfl) rfl (Nat.le_of_eq rfl) (hb hby at_110)
    have M33 := Fr.app N25 N33
    refine own_go st33 ?_
    show own_Go p e below _ T33 (mkF m 113 #[.val (.int p1), .val (.ref b1), .val (.int (7 : Int32)), .val (.ref a_PREDECESSOR), .val (.int (0 : Int32))] [(.int (0 : Int32))])
    refine own_go (fun t k => XS.iload X33.here hx rfl (hb hby at_113) rfl k) ?_
    show own_Go p e below _ T33 (mkF m 115 #[.val (.int p1), .val (.ref b1), .val (.int (7 : Int32)), .val (.ref a_PREDECESSOR), .val (.int (0 : Int32))] [(.int (0 : Int32)), (.int (0 : Int32))])
    refine own_go (fun t k => XS.icmpNo X33.here hx rfl (hb hby at_115) rfl (XT.ii_ne_f (by decide)) k) ?_
    show own_Go p e below _ T33 (mkF m 118 #[.val (.int p1), .val (.ref b1), .val (.int (7 : Int32)), .val (.ref a_PREDECESSOR), .val (.int (0 : Int32))] [])
    refine own_go (fun t k => XS.iconst X33.here hx rfl (hb hby at_118) k) ?_
    show own_Go p e below _ T33 (mkF m 119 #[.val (.int p1), .val (.ref b1), .val (.int (7 : Int32)), .val (.ref a_PREDECESSOR), .val (.int (0 : Int32))] [(.int (1 : Int32))])
    refine own_go (fun t k => XS.goto X33.here hx rfl (pc0 := 119) (pc' := 123) rfl (hb hby at_119) (by decide) (by decide) k) ?_
    show own_Go p e below _ T33 (mkF m 123 #[.val (.int p1), .val (.ref b1), .val (.int (7 : Int32)), .val (.ref a_PREDECESSOR), .val (.int (0 : Int32))] [(.int (1 : Int32))])
    refine own_retZ X33 hx hlk hret (hb hby at_123) (Or.inr rfl) (by decide) (by decide) ?_
    exact ⟨rfl, M33⟩
  · show own_Go p e below _ T25 (mkF m 91 #[.val (.int p1), .val (.ref b1), .unset, .unset, .unset] [(.int (8 : Int32))])
    refine own_go (fun t k => XS.istoreN X25.here hx rfl (hb hby at_91) rfl (l' := #[.val (.int p1), .val (.ref b1), .val (.int (8 : Int32)), .unset, .unset]) rfl k) ?_
    show own_Go p e below _ T25 (mkF m 92 #[.val (.int p1), .val (.ref b1), .val (.int (8 : Int32)), .unset, .unset] [])
    refine own_go (fun t k => XS.aloadN X25.here hx rfl (hb hby at_92) rfl rfl k) ?_
    show own_Go p e below _ T25 (mkF m 93 #[.val (.int p1), .val (.ref b1), .val (.int (8 : Int32)), .unset, .unset] [(.ref b1)])
    refine own_go (fun t k => XS.iloadN X25.here hx rfl (hb hby at_93) rfl k) ?_
    show own_Go p e below _ T25 (mkF m 94 #[.val (.int p1), .val (.ref b1), .val (.int (8 : Int32)), .unset, .unset] [(.int (8 : Int32)), (.ref b1)])
    refine own_go (own_ldR X25 hx hZ e25 (Ls := #[.val (.int p1), .val (.ref b1), .val (.int (8 : Int32)), .unset, .unset]) (rest := []) V25 rfl (j := (8 : Int32)) (by decide) (v := (.ref a_EMPTY_SET)) rfl (hb hby at_94)) ?_
    show own_Go p e below _ T25 (mkF m 95 #[.val (.int p1), .val (.ref b1), .val (.int (8 : Int32)), .unset, .unset] [(.ref a_EMPTY_SET)])
    refine own_go (fun t k => XS.astoreN X25.here hx rfl (hb hby at_95) rfl rfl (l' := #[.val (.int p1), .val (.ref b1), .val (.int (8 : Int32)), .val (.ref a_EMPTY_SET), .unset]) rfl k) ?_
    show own_Go p e below _ T25 (mkF m 96 #[.val (.int p1), .val (.ref b1), .val (.int (8 : Int32)), .val (.ref a_EMPTY_SET), .unset] [])
    refine own_go (fun t k => XS.iloadN X25.here hx rfl (hb hby at_96) rfl k) ?_
    show own_Go p e below _ T25 (mkF m 97 #[.val (.int p1), .val (.ref b1), .val (.int (8 : Int32)), .val (.ref a_EMPTY_SET), .unset] [(.int (8 : Int32))])
    refine own_go (fun t k => XS.bipush X25.here hx rfl (hb hby at_97) k) ?_
    show own_Go p e below _ T25 (mkF m 99 #[.val (.int p1), .val (.ref b1), .val (.int (8 : Int32)), .val (.ref a_EMPTY_SET), .unset] [(.int (8 : Int32)), (.int (8 : Int32))])
    refine own_go (fun t k => XS.icmpNo X25.here hx rfl (hb hby at_99) rfl (XT.ii_lt_f (by decide)) k) ?_
    show own_Go p e below _ T25 (mkF m 102 #[.val (.int p1), .val (.ref b1), .val (.int (8 : Int32)), .val (.ref a_EMPTY_SET), .unset] [])
    refine own_go (fun t k => XS.iconst X25.here hx rfl (hb hby at_102) k) ?_
    show own_Go p e below _ T25 (mkF m 103 #[.val (.int p1), .val (.ref b1), .val (.int (8 : Int32)), .val (.ref a_EMPTY_SET), .unset] [(.int (1 : Int32))])
    refine own_go (fun t k => XS.goto X25.here hx rfl (pc0 := 103) (pc' := 107) rfl (hb hby at_103) (by decide) (by decide) k) ?_
    show own_Go p e below _ T25 (mkF m 107 #[.val (.int p1), .val (.ref b1), .val (.int (8 : Int32)), .val (.ref a_EMPTY_SET), .unset] [(.int (1 : Int32))])
    refine own_go (fun t k => XS.istore X25.here hx rfl (hb hby at_107) rfl (l' := #[.val (.int p1), .val (.ref b1), .val (.int (8 : Int32)), .val (.ref a_EMPTY_SET), .val (.int (1 : Int32))]) rfl k) ?_
    show own_Go p e below _ T25 (mkF m 109 #[.val (.int p1), .val (.ref b1), .val (.int (8 : Int32)), .val (.ref a_EMPTY_SET), .val (.int (1 : Int32))] [])
    refine own_go (fun t k => XS.aloadN X25.here hx rfl (hb hby at_109) rfl rfl k) ?_
    show own_Go p e below _ T25 (mkF m 110 #[.val (.int p1), .val (.ref b1), .val (.int (8 : Int32)), .val (.ref a_EMPTY_SET), .val (.int (1 : Int32))] [(.ref a_EMPTY_SET)])
    obtain ⟨_, T34, L34, X34, ⟨rfl, N34, e34⟩, st34⟩ := own_callV X25 hx hZ (y := (⟨"com/example/nautiloid/nautiloid/lang/Atom", "isGeneric", "()Z"⟩ : MethodName)) (z := (⟨"com/example/nautiloid/nautiloid/lang/Atom", "isGeneric", "()Z"⟩ : MethodName)) (b := a_EMPTY_SET) (argsL := []) (rest := []) (Ls := #[.val (.int p1), .val (.ref b1), .val (.int (8 : Int32)), .val (.ref a_EMPTY_SET), .val (.int (1 : Int32))]) hown (own_w hw 29 rfl) (own_w hw 30 rfl) (own_w hw 32 rfl) (notFace_of_selects (args := #[]) (mvT hZ (own_w hw 32 rfl))) (own_w hw 31 rfl) (own_w hw 33 rfl) (own_w hw 3 rfl) (by decide) e25 (E_EMPTY_SET.ext old25.2) (rm1n l Z a0 hw [] a_EMPTY_SET  h25 n0 (own_oldge old25) (F_EMPTY_SET_type.ext old25.2)) 0 (by decide) (by decide) (by decide) (by decide) (by rw [hml]; rfl) (lenOf pd_0 rfl) rfl (Nat.le_of_eq rfl) (hb hby at_110)
    have M34 := Fr.app N25 N34
    refine own_go st34 ?_
    show own_Go p e below _ T34 (mkF m 113 #[.val (.int p1), .val (.ref b1), .val (.int (8 : Int32)), .val (.ref a_EMPTY_SET), .val (.int (1 : Int32))] [(.int (1 : Int32))])
    refine own_go (fun t k => XS.iload X34.here hx rfl (hb hby at_113) rfl k) ?_
    show own_Go p e below _ T34 (mkF m 115 #[.val (.int p1), .val (.ref b1), .val (.int (8 : Int32)), .val (.ref a_EMPTY_SET), .val (.int (1 : Int32))] [(.int (1 : Int32)), (.int (1 : Int32))])
    refine own_go (fun t k => XS.icmpNo X34.here hx rfl (hb hby at_115) rfl (XT.ii_ne_f (by decide)) k) ?_
    show own_Go p e below _ T34 (mkF m 118 #[.val (.int p1), .val (.ref b1), .val (.int (8 : Int32)), .val (.ref a_EMPTY_SET), .val (.int (1 : Int32))] [])
    refine own_go (fun t k => XS.iconst X34.here hx rfl (hb hby at_118) k) ?_
    show own_Go p e below _ T34 (mkF m 119 #[.val (.int p1), .val (.ref b1), .val (.int (8 : Int32)), .val (.ref a_EMPTY_SET), .val (.int (1 : Int32))] [(.int (1 : Int32))])
    refine own_go (fun t k => XS.goto X34.here hx rfl (pc0 := 119) (pc' := 123) rfl (hb hby at_119) (by decide) (by decide) k) ?_
    show own_Go p e below _ T34 (mkF m 123 #[.val (.int p1), .val (.ref b1), .val (.int (8 : Int32)), .val (.ref a_EMPTY_SET), .val (.int (1 : Int32))] [(.int (1 : Int32))])
    refine own_retZ X34 hx hlk hret (hb hby at_123) (Or.inr rfl) (by decide) (by decide) ?_
    exact ⟨rfl, M34⟩
  · show own_Go p e below _ T25 (mkF m 91 #[.val (.int p1), .val (.ref b1), .unset, .unset, .unset] [(.int (9 : Int32))])
    refine own_go (fun t k => XS.istoreN X25.here hx rfl (hb hby at_91) rfl (l' := #[.val (.int p1), .val (.ref b1), .val (.int (9 : Int32)), .unset, .unset]) rfl k) ?_
    show own_Go p e below _ T25 (mkF m 92 #[.val (.int p1), .val (.ref b1), .val (.int (9 : Int32)), .unset, .unset] [])
    refine own_go (fun t k => XS.aloadN X25.here hx rfl (hb hby at_92) rfl rfl k) ?_
    show own_Go p e below _ T25 (mkF m 93 #[.val (.int p1), .val (.ref b1), .val (.int (9 : Int32)), .unset, .unset] [(.ref b1)])
    refine own_go (fun t k => XS.iloadN X25.here hx rfl (hb hby at_93) rfl k) ?_
    show own_Go p e below _ T25 (mkF m 94 #[.val (.int p1), .val (.ref b1), .val (.int (9 : Int32)), .unset, .unset] [(.int (9 : Int32)), (.ref b1)])
    refine own_go (own_ldR X25 hx hZ e25 (Ls := #[.val (.int p1), .val (.ref b1), .val (.int (9 : Int32)), .unset, .unset]) (rest := []) V25 rfl (j := (9 : Int32)) (by decide) (v := (.ref a_IDENTITY)) rfl (hb hby at_94)) ?_
    show own_Go p e below _ T25 (mkF m 95 #[.val (.int p1), .val (.ref b1), .val (.int (9 : Int32)), .unset, .unset] [(.ref a_IDENTITY)])
    refine own_go (fun t k => XS.astoreN X25.here hx rfl (hb hby at_95) rfl rfl (l' := #[.val (.int p1), .val (.ref b1), .val (.int (9 : Int32)), .val (.ref a_IDENTITY), .unset]) rfl k) ?_
    show own_Go p e below _ T25 (mkF m 96 #[.val (.int p1), .val (.ref b1), .val (.int (9 : Int32)), .val (.ref a_IDENTITY), .unset] [])
    refine own_go (fun t k => XS.iloadN X25.here hx rfl (hb hby at_96) rfl k) ?_
    show own_Go p e below _ T25 (mkF m 97 #[.val (.int p1), .val (.ref b1), .val (.int (9 : Int32)), .val (.ref a_IDENTITY), .unset] [(.int (9 : Int32))])
    refine own_go (fun t k => XS.bipush X25.here hx rfl (hb hby at_97) k) ?_
    show own_Go p e below _ T25 (mkF m 99 #[.val (.int p1), .val (.ref b1), .val (.int (9 : Int32)), .val (.ref a_IDENTITY), .unset] [(.int (8 : Int32)), (.int (9 : Int32))])
    refine own_go (fun t k => XS.icmpNo X25.here hx rfl (hb hby at_99) rfl (XT.ii_lt_f (by decide)) k) ?_
    show own_Go p e below _ T25 (mkF m 102 #[.val (.int p1), .val (.ref b1), .val (.int (9 : Int32)), .val (.ref a_IDENTITY), .unset] [])
    refine own_go (fun t k => XS.iconst X25.here hx rfl (hb hby at_102) k) ?_
    show own_Go p e below _ T25 (mkF m 103 #[.val (.int p1), .val (.ref b1), .val (.int (9 : Int32)), .val (.ref a_IDENTITY), .unset] [(.int (1 : Int32))])
    refine own_go (fun t k => XS.goto X25.here hx rfl (pc0 := 103) (pc' := 107) rfl (hb hby at_103) (by decide) (by decide) k) ?_
    show own_Go p e below _ T25 (mkF m 107 #[.val (.int p1), .val (.ref b1), .val (.int (9 : Int32)), .val (.ref a_IDENTITY), .unset] [(.int (1 : Int32))])
    refine own_go (fun t k => XS.istore X25.here hx rfl (hb hby at_107) rfl (l' := #[.val (.int p1), .val (.ref b1), .val (.int (9 : Int32)), .val (.ref a_IDENTITY), .val (.int (1 : Int32))]) rfl k) ?_
    show own_Go p e below _ T25 (mkF m 109 #[.val (.int p1), .val (.ref b1), .val (.int (9 : Int32)), .val (.ref a_IDENTITY), .val (.int (1 : Int32))] [])
    refine own_go (fun t k => XS.aloadN X25.here hx rfl (hb hby at_109) rfl rfl k) ?_
    show own_Go p e below _ T25 (mkF m 110 #[.val (.int p1), .val (.ref b1), .val (.int (9 : Int32)), .val (.ref a_IDENTITY), .val (.int (1 : Int32))] [(.ref a_IDENTITY)])
    obtain ⟨_, T35, L35, X35, ⟨rfl, N35, e35⟩, st35⟩ := own_callV X25 hx hZ (y := (⟨"com/example/nautiloid/nautiloid/lang/Atom", "isGeneric", "()Z"⟩ : MethodName)) (z := (⟨"com/example/nautiloid/nautiloid/lang/Atom", "isGeneric", "()Z"⟩ : MethodName)) (b := a_IDENTITY) (argsL := []) (rest := []) (Ls := #[.val (.int p1), .val (.ref b1), .val (.int (9 : Int32)), .val (.ref a_IDENTITY), .val (.int (1 : Int32))]) hown (own_w hw 29 rfl) (own_w hw 30 rfl) (own_w hw 32 rfl) (notFace_of_selects (args := #[]) (mvT hZ (own_w hw 32 rfl))) (own_w hw 31 rfl) (own_w hw 33 rfl) (own_w hw 3 rfl) (by decide) e25 (E_IDENTITY.ext old25.2) (rm1n l Z a0 hw [] a_IDENTITY  h25 n0 (own_oldge old25) (F_IDENTITY_type.ext old25.2)) 0 (by decide) (by decide) (by decide) (by decide) (by rw [hml]; rfl) (lenOf pd_0 rfl) rfl (Nat.le_of_eq rfl) (hb hby at_110)
    have M35 := Fr.app N25 N35
    refine own_go st35 ?_
    show own_Go p e below _ T35 (mkF m 113 #[.val (.int p1), .val (.ref b1), .val (.int (9 : Int32)), .val (.ref a_IDENTITY), .val (.int (1 : Int32))] [(.int (1 : Int32))])
    refine own_go (fun t k => XS.iload X35.here hx rfl (hb hby at_113) rfl k) ?_
    show own_Go p e below _ T35 (mkF m 115 #[.val (.int p1), .val (.ref b1), .val (.int (9 : Int32)), .val (.ref a_IDENTITY), .val (.int (1 : Int32))] [(.int (1 : Int32)), (.int (1 : Int32))])
    refine own_go (fun t k => XS.icmpNo X35.here hx rfl (hb hby at_115) rfl (XT.ii_ne_f (by decide)) k) ?_
    show own_Go p e below _ T35 (mkF m 118 #[.val (.int p1), .val (.ref b1), .val (.int (9 : Int32)), .val (.ref a_IDENTITY), .val (.int (1 : Int32))] [])
    refine own_go (fun t k => XS.iconst X35.here hx rfl (hb hby at_118) k) ?_
    show own_Go p e below _ T35 (mkF m 119 #[.val (.int p1), .val (.ref b1), .val (.int (9 : Int32)), .val (.ref a_IDENTITY), .val (.int (1 : Int32))] [(.int (1 : Int32))])
    refine own_go (fun t k => XS.goto X35.here hx rfl (pc0 := 119) (pc' := 123) rfl (hb hby at_119) (by decide) (by decide) k) ?_
    show own_Go p e below _ T35 (mkF m 123 #[.val (.int p1), .val (.ref b1), .val (.int (9 : Int32)), .val (.ref a_IDENTITY), .val (.int (1 : Int32))] [(.int (1 : Int32))])
    refine own_retZ X35 hx hlk hret (hb hby at_123) (Or.inr rfl) (by decide) (by decide) ?_
    exact ⟨rfl, M35⟩
  · show own_Go p e below _ T25 (mkF m 91 #[.val (.int p1), .val (.ref b1), .unset, .unset, .unset] [(.int (10 : Int32))])
    refine own_go (fun t k => XS.istoreN X25.here hx rfl (hb hby at_91) rfl (l' := #[.val (.int p1), .val (.ref b1), .val (.int (10 : Int32)), .unset, .unset]) rfl k) ?_
    show own_Go p e below _ T25 (mkF m 92 #[.val (.int p1), .val (.ref b1), .val (.int (10 : Int32)), .unset, .unset] [])
    refine own_go (fun t k => XS.aloadN X25.here hx rfl (hb hby at_92) rfl rfl k) ?_
    show own_Go p e below _ T25 (mkF m 93 #[.val (.int p1), .val (.ref b1), .val (.int (10 : Int32)), .unset, .unset] [(.ref b1)])
    refine own_go (fun t k => XS.iloadN X25.here hx rfl (hb hby at_93) rfl k) ?_
    show own_Go p e below _ T25 (mkF m 94 #[.val (.int p1), .val (.ref b1), .val (.int (10 : Int32)), .unset, .unset] [(.int (10 : Int32)), (.ref b1)])
    refine own_go (own_ldR X25 hx hZ e25 (Ls := #[.val (.int p1), .val (.ref b1), .val (.int (10 : Int32)), .unset, .unset]) (rest := []) V25 rfl (j := (10 : Int32)) (by decide) (v := (.ref a_FIRST_PROJECTION)) rfl (hb hby at_94)) ?_
    show own_Go p e below _ T25 (mkF m 95 #[.val (.int p1), .val (.ref b1), .val (.int (10 : Int32)), .unset, .unset] [(.ref a_FIRST_PROJECTION)])
    refine own_go (fun t k => XS.astoreN X25.here hx rfl (hb hby at_95) rfl rfl (l' := #[.val (.int p1), .val (.ref b1), .val (.int (10 : Int32)), .val (.ref a_FIRST_PROJECTION), .unset]) rfl k) ?_
    show own_Go p e below _ T25 (mkF m 96 #[.val (.int p1), .val (.ref b1), .val (.int (10 : Int32)), .val (.ref a_FIRST_PROJECTION), .unset] [])
    refine own_go (fun t k => XS.iloadN X25.here hx rfl (hb hby at_96) rfl k) ?_
    show own_Go p e below _ T25 (mkF m 97 #[.val (.int p1), .val (.ref b1), .val (.int (10 : Int32)), .val (.ref a_FIRST_PROJECTION), .unset] [(.int (10 : Int32))])
    refine own_go (fun t k => XS.bipush X25.here hx rfl (hb hby at_97) k) ?_
    show own_Go p e below _ T25 (mkF m 99 #[.val (.int p1), .val (.ref b1), .val (.int (10 : Int32)), .val (.ref a_FIRST_PROJECTION), .unset] [(.int (8 : Int32)), (.int (10 : Int32))])
    refine own_go (fun t k => XS.icmpNo X25.here hx rfl (hb hby at_99) rfl (XT.ii_lt_f (by decide)) k) ?_
    show own_Go p e below _ T25 (mkF m 102 #[.val (.int p1), .val (.ref b1), .val (.int (10 : Int32)), .val (.ref a_FIRST_PROJECTION), .unset] [])
    refine own_go (fun t k => XS.iconst X25.here hx rfl (hb hby at_102) k) ?_
    show own_Go p e below _ T25 (mkF m 103 #[.val (.int p1), .val (.ref b1), .val (.int (10 : Int32)), .val (.ref a_FIRST_PROJECTION), .unset] [(.int (1 : Int32))])
    refine own_go (fun t k => XS.goto X25.here hx rfl (pc0 := 103) (pc' := 107) rfl (hb hby at_103) (by decide) (by decide) k) ?_
    show own_Go p e below _ T25 (mkF m 107 #[.val (.int p1), .val (.ref b1), .val (.int (10 : Int32)), .val (.ref a_FIRST_PROJECTION), .unset] [(.int (1 : Int32))])
    refine own_go (fun t k => XS.istore X25.here hx rfl (hb hby at_107) rfl (l' := #[.val (.int p1), .val (.ref b1), .val (.int (10 : Int32)), .val (.ref a_FIRST_PROJECTION), .val (.int (1 : Int32))]) rfl k) ?_
    show own_Go p e below _ T25 (mkF m 109 #[.val (.int p1), .val (.ref b1), .val (.int (10 : Int32)), .val (.ref a_FIRST_PROJECTION), .val (.int (1 : Int32))] [])
    refine own_go (fun t k => XS.aloadN X25.here hx rfl (hb hby at_109) rfl rfl k) ?_
    show own_Go p e below _ T25 (mkF m 110 #[.val (.int p1), .val (.ref b1), .val (.int (10 : Int32)), .val (.ref a_FIRST_PROJECTION), .val (.int (1 : Int32))] [(.ref a_FIRST_PROJECTION)])
    obtain ⟨_, T36, L36, X36, ⟨rfl, N36, e36⟩, st36⟩ := own_callV X25 hx hZ (y := (⟨"com/example/nautiloid/nautiloid/lang/Atom", "isGeneric", "()Z"⟩ : MethodName)) (z := (⟨"com/example/nautiloid/nautiloid/lang/Atom", "isGeneric", "()Z"⟩ : MethodName)) (b := a_FIRST_PROJECTION) (argsL := []) (rest := []) (Ls := #[.val (.int p1), .val (.ref b1), .val (.int (10 : Int32)), .val (.ref a_FIRST_PROJECTION), .val (.int (1 : Int32))]) hown (own_w hw 29 rfl) (own_w hw 30 rfl) (own_w hw 32 rfl) (notFace_of_selects (args := #[]) (mvT hZ (own_w hw 32 rfl))) (own_w hw 31 rfl) (own_w hw 33 rfl) (own_w hw 3 rfl) (by decide) e25 (E_FIRST_PROJECTION.ext old25.2) (rm1n l Z a0 hw [] a_FIRST_PROJECTION  h25 n0 (own_oldge old25) (F_FIRST_PROJECTION_type.ext old25.2)) 0 (by decide) (by decide) (by decide) (by decide) (by rw [hml]; rfl) (lenOf pd_0 rfl) rfl (Nat.le_of_eq rfl) (hb hby at_110)
    have M36 := Fr.app N25 N36
    refine own_go st36 ?_
    show own_Go p e below _ T36 (mkF m 113 #[.val (.int p1), .val (.ref b1), .val (.int (10 : Int32)), .val (.ref a_FIRST_PROJECTION), .val (.int (1 : Int32))] [(.int (1 : Int32))])
    refine own_go (fun t k => XS.iload X36.here hx rfl (hb hby at_113) rfl k) ?_
    show own_Go p e below _ T36 (mkF m 115 #[.val (.int p1), .val (.ref b1), .val (.int (10 : Int32)), .val (.ref a_FIRST_PROJECTION), .val (.int (1 : Int32))] [(.int (1 : Int32)), (.int (1 : Int32))])
    refine own_go (fun t k => XS.icmpNo X36.here hx rfl (hb hby at_115) rfl (XT.ii_ne_f (by decide)) k) ?_
    show own_Go p e below _ T36 (mkF m 118 #[.val (.int p1), .val (.ref b1), .val (.int (10 : Int32)), .val (.ref a_FIRST_PROJECTION), .val (.int (1 : Int32))] [])
    refine own_go (fun t k => XS.iconst X36.here hx rfl (hb hby at_118) k) ?_
    show own_Go p e below _ T36 (mkF m 119 #[.val (.int p1), .val (.ref b1), .val (.int (10 : Int32)), .val (.ref a_FIRST_PROJECTION), .val (.int (1 : Int32))] [(.int (1 : Int32))])
    refine own_go (fun t k => XS.goto X36.here hx rfl (pc0 := 119) (pc' := 123) rfl (hb hby at_119) (by decide) (by decide) k) ?_
    show own_Go p e below _ T36 (mkF m 123 #[.val (.int p1), .val (.ref b1), .val (.int (10 : Int32)), .val (.ref a_FIRST_PROJECTION), .val (.int (1 : Int32))] [(.int (1 : Int32))])
    refine own_retZ X36 hx hlk hret (hb hby at_123) (Or.inr rfl) (by decide) (by decide) ?_
    exact ⟨rfl, M36⟩
  · show own_Go p e below _ T25 (mkF m 91 #[.val (.int p1), .val (.ref b1), .unset, .unset, .unset] [(.int (11 : Int32))])
    refine own_go (fun t k => XS.istoreN X25.here hx rfl (hb hby at_91) rfl (l' := #[.val (.int p1), .val (.ref b1), .val (.int (11 : Int32)), .unset, .unset]) rfl k) ?_
    show own_Go p e below _ T25 (mkF m 92 #[.val (.int p1), .val (.ref b1), .val (.int (11 : Int32)), .unset, .unset] [])
    refine own_go (fun t k => XS.aloadN X25.here hx rfl (hb hby at_92) rfl rfl k) ?_
    show own_Go p e below _ T25 (mkF m 93 #[.val (.int p1), .val (.ref b1), .val (.int (11 : Int32)), .unset, .unset] [(.ref b1)])
    refine own_go (fun t k => XS.iloadN X25.here hx rfl (hb hby at_93) rfl k) ?_
    show own_Go p e below _ T25 (mkF m 94 #[.val (.int p1), .val (.ref b1), .val (.int (11 : Int32)), .unset, .unset] [(.int (11 : Int32)), (.ref b1)])
    refine own_go (own_ldR X25 hx hZ e25 (Ls := #[.val (.int p1), .val (.ref b1), .val (.int (11 : Int32)), .unset, .unset]) (rest := []) V25 rfl (j := (11 : Int32)) (by decide) (v := (.ref a_SECOND_PROJECTION)) rfl (hb hby at_94)) ?_
    show own_Go p e below _ T25 (mkF m 95 #[.val (.int p1), .val (.ref b1), .val (.int (11 : Int32)), .unset, .unset] [(.ref a_SECOND_PROJECTION)])
    refine own_go (fun t k => XS.astoreN X25.here hx rfl (hb hby at_95) rfl rfl (l' := #[.val (.int p1), .val (.ref b1), .val (.int (11 : Int32)), .val (.ref a_SECOND_PROJECTION), .unset]) rfl k) ?_
    show own_Go p e below _ T25 (mkF m 96 #[.val (.int p1), .val (.ref b1), .val (.int (11 : Int32)), .val (.ref a_SECOND_PROJECTION), .unset] [])
    refine own_go (fun t k => XS.iloadN X25.here hx rfl (hb hby at_96) rfl k) ?_
    show own_Go p e below _ T25 (mkF m 97 #[.val (.int p1), .val (.ref b1), .val (.int (11 : Int32)), .val (.ref a_SECOND_PROJECTION), .unset] [(.int (11 : Int32))])
    refine own_go (fun t k => XS.bipush X25.here hx rfl (hb hby at_97) k) ?_
    show own_Go p e below _ T25 (mkF m 99 #[.val (.int p1), .val (.ref b1), .val (.int (11 : Int32)), .val (.ref a_SECOND_PROJECTION), .unset] [(.int (8 : Int32)), (.int (11 : Int32))])
    refine own_go (fun t k => XS.icmpNo X25.here hx rfl (hb hby at_99) rfl (XT.ii_lt_f (by decide)) k) ?_
    show own_Go p e below _ T25 (mkF m 102 #[.val (.int p1), .val (.ref b1), .val (.int (11 : Int32)), .val (.ref a_SECOND_PROJECTION), .unset] [])
    refine own_go (fun t k => XS.iconst X25.here hx rfl (hb hby at_102) k) ?_
    show own_Go p e below _ T25 (mkF m 103 #[.val (.int p1), .val (.ref b1), .val (.int (11 : Int32)), .val (.ref a_SECOND_PROJECTION), .unset] [(.int (1 : Int32))])
    refine own_go (fun t k => XS.goto X25.here hx rfl (pc0 := 103) (pc' := 107) rfl (hb hby at_103) (by decide) (by decide) k) ?_
    show own_Go p e below _ T25 (mkF m 107 #[.val (.int p1), .val (.ref b1), .val (.int (11 : Int32)), .val (.ref a_SECOND_PROJECTION), .unset] [(.int (1 : Int32))])
    refine own_go (fun t k => XS.istore X25.here hx rfl (hb hby at_107) rfl (l' := #[.val (.int p1), .val (.ref b1), .val (.int (11 : Int32)), .val (.ref a_SECOND_PROJECTION), .val (.int (1 : Int32))]) rfl k) ?_
    show own_Go p e below _ T25 (mkF m 109 #[.val (.int p1), .val (.ref b1), .val (.int (11 : Int32)), .val (.ref a_SECOND_PROJECTION), .val (.int (1 : Int32))] [])
    refine own_go (fun t k => XS.aloadN X25.here hx rfl (hb hby at_109) rfl rfl k) ?_
    show own_Go p e below _ T25 (mkF m 110 #[.val (.int p1), .val (.ref b1), .val (.int (11 : Int32)), .val (.ref a_SECOND_PROJECTION), .val (.int (1 : Int32))] [(.ref a_SECOND_PROJECTION)])
    obtain ⟨_, T37, L37, X37, ⟨rfl, N37, e37⟩, st37⟩ := own_callV X25 hx hZ (y := (⟨"com/example/nautiloid/nautiloid/lang/Atom", "isGeneric", "()Z"⟩ : MethodName)) (z := (⟨"com/example/nautiloid/nautiloid/lang/Atom", "isGeneric", "()Z"⟩ : MethodName)) (b := a_SECOND_PROJECTION) (argsL := []) (rest := []) (Ls := #[.val (.int p1), .val (.ref b1), .val (.int (11 : Int32)), .val (.ref a_SECOND_PROJECTION), .val (.int (1 : Int32))]) hown (own_w hw 29 rfl) (own_w hw 30 rfl) (own_w hw 32 rfl) (notFace_of_selects (args := #[]) (mvT hZ (own_w hw 32 rfl))) (own_w hw 31 rfl) (own_w hw 33 rfl) (own_w hw 3 rfl) (by decide) e25 (E_SECOND_PROJECTION.ext old25.2) (rm1n l Z a0 hw [] a_SECOND_PROJECTION  h25 n0 (own_oldge old25) (F_SECOND_PROJECTION_type.ext old25.2)) 0 (by decide) (by decide) (by decide) (by decide) (by rw [hml]; rfl) (lenOf pd_0 rfl) rfl (Nat.le_of_eq rfl) (hb hby at_110)
    have M37 := Fr.app N25 N37
    refine own_go st37 ?_
    show own_Go p e below _ T37 (mkF m 113 #[.val (.int p1), .val (.ref b1), .val (.int (11 : Int32)), .val (.ref a_SECOND_PROJECTION), .val (.int (1 : Int32))] [(.int (1 : Int32))])
    refine own_go (fun t k => XS.iload X37.here hx rfl (hb hby at_113) rfl k) ?_
    show own_Go p e below _ T37 (mkF m 115 #[.val (.int p1), .val (.ref b1), .val (.int (11 : Int32)), .val (.ref a_SECOND_PROJECTION), .val (.int (1 : Int32))] [(.int (1 : Int32)), (.int (1 : Int32))])
    refine own_go (fun t k => XS.icmpNo X37.here hx rfl (hb hby at_115) rfl (XT.ii_ne_f (by decide)) k) ?_
    show own_Go p e below _ T37 (mkF m 118 #[.val (.int p1), .val (.ref b1), .val (.int (11 : Int32)), .val (.ref a_SECOND_PROJECTION), .val (.int (1 : Int32))] [])
    refine own_go (fun t k => XS.iconst X37.here hx rfl (hb hby at_118) k) ?_
    show own_Go p e below _ T37 (mkF m 119 #[.val (.int p1), .val (.ref b1), .val (.int (11 : Int32)), .val (.ref a_SECOND_PROJECTION), .val (.int (1 : Int32))] [(.int (1 : Int32))])
    refine own_go (fun t k => XS.goto X37.here hx rfl (pc0 := 119) (pc' := 123) rfl (hb hby at_119) (by decide) (by decide) k) ?_
    show own_Go p e below _ T37 (mkF m 123 #[.val (.int p1), .val (.ref b1), .val (.int (11 : Int32)), .val (.ref a_SECOND_PROJECTION), .val (.int (1 : Int32))] [(.int (1 : Int32))])
    refine own_retZ X37 hx hlk hret (hb hby at_123) (Or.inr rfl) (by decide) (by decide) ?_
    exact ⟨rfl, M37⟩
set_option maxRecDepth 65536 in
set_option maxHeartbeats 40000000 in
theorem comes_1 {Post : Tables → Env → Array Value → State → Outcome → State → Prop} (hpost : ∀ tb e args s v u, (limb_1_1.after args s (.returned v) u = true ∧ limb_1_2.after args s (.returned v) u = true ∧ True) → FrameEnd s (.returned v) u (Jvm.fieldLocs frame_1_writes args s ++ Jvm.arrayLocs frame_1_arrays args s ++ Jvm.staticLocs frame_1_statics s) 16 128 → Post tb e args s (.returned v) u) :
    ArmFor flags0 classFile x code maxLocals ret World_1 tables_1 room_1 Calls_1 rest_1 Pre_1 Post := by
  intro l hfl _ _ p e ha hc hk s m args below hf hA hF happ hP
  obtain ⟨hcalls, hrest, hpre⟩ := hP
  obtain ⟨-, -, -, hnamed, -, -, -, hat⟩ := (Spec.applies_iff hf).mp happ
  obtain ⟨hg, hn⟩ := and_e (Cond.before_iff.mp (show (Jvm.Cond.and given_1 narrow_1).before args s = true from hpre))
  obtain ⟨g1, g2⟩ := and_e hg
  obtain ⟨w0, rfl⟩ : ∃ w0 : Value, args = #[w0] := by
    have hs : args.size = 1 := by simpa [Cond.value, given_1] using g1
    obtain ⟨L⟩ := args
    match L, hs with
    | [w0], _ => exact ⟨w0, rfl⟩
  have hw := fun d (hd : d ∈ tables_1) => atoms_spec (ws := Jvm.Cond.code x code maxLocals ret :: tables_1) hat d (List.mem_cons_of_mem _ hd)
  have hfit : Fit s := fun {y c} hc i hi => by
    obtain ⟨ha, rfl⟩ := Array.getElem?_eq_some_iff.mp hc
    have q := List.all_eq_true.mp ((Array.all_eq_true_iff_forall_mem.mp hF) _ (Array.getElem_mem ha)) i (List.mem_range.mpr hi)
    simpa [Array.getElem?_eq_getElem hi] using q
  obtain ⟨i0, ei0⟩ := is_v g2
  obtain rfl : w0 = (.int i0) := Option.some.inj ei0
  obtain ⟨nq0, nr0⟩ := and_e hn
  obtain ⟨nq1, nr1⟩ := and_e nr0
  obtain ⟨nq2, nr2⟩ := and_e nr1
  obtain ⟨nq3, nr3⟩ := and_e nr2
  obtain ⟨nq4, nr4⟩ := and_e nr3
  obtain ⟨nq5, nr5⟩ := and_e nr4
  obtain ⟨nq6, nr6⟩ := and_e nr5
  obtain ⟨nq7, nr7⟩ := and_e nr6
  obtain ⟨nq8, nr8⟩ := and_e nr7
  obtain ⟨nq9, nr9⟩ := and_e nr8
  obtain ⟨nq10, nr10⟩ := and_e nr9
  obtain ⟨nq11, nr11⟩ := and_e nr10
  obtain ⟨nq12, nr12⟩ := and_e nr11
  obtain ⟨nq13, nr13⟩ := and_e nr12
  obtain ⟨nq14, nr14⟩ := and_e nr13
  obtain ⟨nq15, nr15⟩ := and_e nr14
  obtain ⟨nq16, nr16⟩ := and_e nr15
  obtain ⟨nq17, nr17⟩ := and_e nr16
  obtain ⟨nq18, nr18⟩ := and_e nr17
  obtain ⟨nq19, nr19⟩ := and_e nr18
  obtain ⟨nq20, nr20⟩ := and_e nr19
  obtain ⟨nq21, nr21⟩ := and_e nr20
  obtain ⟨nq22, nr22⟩ := and_e nr21
  obtain ⟨a_INTEGERS, ev_INTEGERS⟩ := exa_v nq0
  have E_INTEGERS := Exa.start ev_INTEGERS nq0
  have S_INTEGERS := Sta.start ev_INTEGERS (Or.inr ⟨(own_w hw 3 rfl), (own_w hw 4 rfl)⟩)
  obtain ⟨a_NATURALS, ev_NATURALS⟩ := exa_v nq1
  have E_NATURALS := Exa.start ev_NATURALS nq1
  have S_NATURALS := Sta.start ev_NATURALS (Or.inr ⟨(own_w hw 3 rfl), (own_w hw 7 rfl)⟩)
  obtain ⟨a_POSITIVE_NATURALS, ev_POSITIVE_NATURALS⟩ := exa_v nq2
  have E_POSITIVE_NATURALS := Exa.start ev_POSITIVE_NATURALS nq2
  have S_POSITIVE_NATURALS := Sta.start ev_POSITIVE_NATURALS (Or.inr ⟨(own_w hw 3 rfl), (own_w hw 9 rfl)⟩)
  obtain ⟨a_BOOLEANS, ev_BOOLEANS⟩ := exa_v nq3
  have E_BOOLEANS := Exa.start ev_BOOLEANS nq3
  have S_BOOLEANS := Sta.start ev_BOOLEANS (Or.inr ⟨(own_w hw 3 rfl), (own_w hw 11 rfl)⟩)
  obtain ⟨a_TRUE, ev_TRUE⟩ := exa_v nq4
  have E_TRUE := Exa.start ev_TRUE nq4
  have S_TRUE := Sta.start ev_TRUE (Or.inr ⟨(own_w hw 3 rfl), (own_w hw 13 rfl)⟩)
  obtain ⟨a_FALSE, ev_FALSE⟩ := exa_v nq5
  have E_FALSE := Exa.start ev_FALSE nq5
  have S_FALSE := Sta.start ev_FALSE (Or.inr ⟨(own_w hw 3 rfl), (own_w hw 15 rfl)⟩)
  obtain ⟨a_SUCCESSOR, ev_SUCCESSOR⟩ := exa_v nq6
  have E_SUCCESSOR := Exa.start ev_SUCCESSOR nq6
  have S_SUCCESSOR := Sta.start ev_SUCCESSOR (Or.inr ⟨(own_w hw 3 rfl), (own_w hw 17 rfl)⟩)
  obtain ⟨a_PREDECESSOR, ev_PREDECESSOR⟩ := exa_v nq7
  have E_PREDECESSOR := Exa.start ev_PREDECESSOR nq7
  have S_PREDECESSOR := Sta.start ev_PREDECESSOR (Or.inr ⟨(own_w hw 3 rfl), (own_w hw 19 rfl)⟩)
  obtain ⟨a_EMPTY_SET, ev_EMPTY_SET⟩ := exa_v nq8
  have E_EMPTY_SET := Exa.start ev_EMPTY_SET nq8
  have S_EMPTY_SET := Sta.start ev_EMPTY_SET (Or.inr ⟨(own_w hw 3 rfl), (own_w hw 21 rfl)⟩)
  obtain ⟨a_IDENTITY, ev_IDENTITY⟩ := exa_v nq9
  have E_IDENTITY := Exa.start ev_IDENTITY nq9
  have S_IDENTITY := Sta.start ev_IDENTITY (Or.inr ⟨(own_w hw 3 rfl), (own_w hw 23 rfl)⟩)
  obtain ⟨a_FIRST_PROJECTION, ev_FIRST_PROJECTION⟩ := exa_v nq10
  have E_FIRST_PROJECTION := Exa.start ev_FIRST_PROJECTION nq10
  have S_FIRST_PROJECTION := Sta.start ev_FIRST_PROJECTION (Or.inr ⟨(own_w hw 3 rfl), (own_w hw 25 rfl)⟩)
  obtain ⟨a_SECOND_PROJECTION, ev_SECOND_PROJECTION⟩ := exa_v nq11
  have E_SECOND_PROJECTION := Exa.start ev_SECOND_PROJECTION nq11
  have S_SECOND_PROJECTION := Sta.start ev_SECOND_PROJECTION (Or.inr ⟨(own_w hw 3 rfl), (own_w hw 27 rfl)⟩)
  obtain ⟨b_INTEGERS_type, ef_INTEGERS_type⟩ := exa_v nq12
  have F_INTEGERS_type := own_fld ev_INTEGERS ef_INTEGERS_type
  obtain ⟨b_BOOLEANS_type, ef_BOOLEANS_type⟩ := exa_v nq13
  have F_BOOLEANS_type := own_fld ev_BOOLEANS ef_BOOLEANS_type
  obtain ⟨b_POSITIVE_NATURALS_type, ef_POSITIVE_NATURALS_type⟩ := exa_v nq14
  have F_POSITIVE_NATURALS_type := own_fld ev_POSITIVE_NATURALS ef_POSITIVE_NATURALS_type
  obtain ⟨b_PREDECESSOR_type, ef_PREDECESSOR_type⟩ := exa_v nq15
  have F_PREDECESSOR_type := own_fld ev_PREDECESSOR ef_PREDECESSOR_type
  have F_SECOND_PROJECTION_type := own_fld ev_SECOND_PROJECTION (null_v nq16)
  obtain ⟨b_TRUE_type, ef_TRUE_type⟩ := exa_v nq17
  have F_TRUE_type := own_fld ev_TRUE ef_TRUE_type
  have F_EMPTY_SET_type := own_fld ev_EMPTY_SET (null_v nq18)
  obtain ⟨b_NATURALS_type, ef_NATURALS_type⟩ := exa_v nq19
  have F_NATURALS_type := own_fld ev_NATURALS ef_NATURALS_type
  have F_FIRST_PROJECTION_type := own_fld ev_FIRST_PROJECTION (null_v nq20)
  have F_IDENTITY_type := own_fld ev_IDENTITY (null_v nq21)
  obtain ⟨b_SUCCESSOR_type, ef_SUCCESSOR_type⟩ := exa_v nq22
  have F_SUCCESSOR_type := own_fld ev_SUCCESSOR ef_SUCCESSOR_type
  have F_FALSE_type := own_fld ev_FALSE (own_eqR ef_TRUE_type nr22)
  obtain ⟨n, o, h1, h2, h3, _, L, rfl, ⟨rfl, N⟩, hq⟩ := rm0 l s _ hw tables_1 i0 a_INTEGERS a_NATURALS a_POSITIVE_NATURALS a_BOOLEANS a_TRUE a_FALSE a_SUCCESSOR a_PREDECESSOR a_EMPTY_SET a_IDENTITY a_FIRST_PROJECTION a_SECOND_PROJECTION b_INTEGERS_type b_BOOLEANS_type b_POSITIVE_NATURALS_type b_PREDECESSOR_type b_TRUE_type b_NATURALS_type b_SUCCESSOR_type s.heap s.heap.size (Nat.le_refl _) (Old.start s) S_INTEGERS E_INTEGERS S_NATURALS E_NATURALS S_POSITIVE_NATURALS E_POSITIVE_NATURALS S_BOOLEANS E_BOOLEANS S_TRUE E_TRUE S_FALSE E_FALSE S_SUCCESSOR E_SUCCESSOR S_PREDECESSOR E_PREDECESSOR S_EMPTY_SET E_EMPTY_SET S_IDENTITY E_IDENTITY S_FIRST_PROJECTION E_FIRST_PROJECTION S_SECOND_PROJECTION E_SECOND_PROJECTION F_INTEGERS_type F_BOOLEANS_type F_POSITIVE_NATURALS_type F_PREDECESSOR_type F_SECOND_PROJECTION_type F_TRUE_type F_EMPTY_SET_type F_NATURALS_type F_FIRST_PROJECTION_type F_IDENTITY_type F_SUCCESSOR_type F_FALSE_type p e ha hc hk s m _ below hf ((Spec.applies_iff_loose hf).mp happ).1 ⟨rfl, State.Warmed39.refl s, rfl⟩ trivial
  refine ⟨n, _, h1, h2, h3, hpost _ _ _ _ _ _ ⟨Cond.after_iff.mpr rfl, Cond.after_iff.mpr (eq_i res_at (Term.int_eval (1)) rfl), trivial⟩ ⟨hq.1, hq.2.1, (hq.2.2.sift fun y hy => Or.inr (N y hy)).mono (by decide) (by decide)⟩⟩
theorem main_1_1 : Claimed_1_1 := comes_1 fun _ _ _ _ _ _ h hF => ⟨h.1, hF⟩
theorem main_1_2 : Claimed_1_2 := comes_1 fun _ _ _ _ _ _ h hF => ⟨h.2.1, hF⟩
end Jvm.Pilot.@@N@@
namespace Jvm.Pilot.@@N@@
open Jvm Jvm.ClassFile Sem Op Lib Jvm.Free Jvm.Stand Jvm.Pilot.@@N@@.Jvm.D
/-! MADE BY PROGRAM (witnessworld.py) out of the Statement's table words and the real class files: 17 classes; the members and pool entries that the words name. The judged class is class 1, her method 1. -/
namespace start1
open Jvm.ClassFile
def u (s : String) : CpInfo := .utf8 (stringToUtf16 s)
/-- a pool by its gaps: so many unusable entries, then the entry; so many at the end -/
def gap : Nat → List CpInfo → List CpInfo
  | 0, r => r
  | n + 1, r => .unusable :: gap n r
def poolList (es : List (Nat × CpInfo)) (last : Nat) : List CpInfo := es.foldr (fun e r => gap e.1 (e.2 :: r)) (gap last [])
def pool (es : List (Nat × CpInfo)) (last : Nat) : Array CpInfo := ⟨poolList es last⟩
def fileOf (pool : Array CpInfo) (this : Nat) (attrs : Array Attribute := #[]) (ms : Array MethodInfo := #[]) (fl : Nat := 33) (sup : Nat := 0) (ifs : Array Nat := #[]) (fds : Array FieldInfo := #[]) : ClassFile where
  minorVersion := 0
  majorVersion := 65
  constantPool := pool
  accessFlags := fl
  thisClass := this
  superClass := sup
  interfaces := ifs
  fields := fds
  methods := ms
  attributes := attrs
def plain (name : String) (sup : Option ClassId) : Class where
  name := name
  kind := .ordinary
  loader := none
  accessFlags := 33
  super := sup
  interfaces := #[]
  cf := none
  fields := #[]
  methods := #[]
  instanceTypes := #[]
  staticTypes := #[]
  resolved := #[]
  callSites := []
  init := .initialized
  statics := none
  mirror := none

def pool0 : Array CpInfo := pool [(5, u "<init>"), (0, u "()V"), (1, .class_ 10), (1, u "java/lang/Object")] 113

def k0m0 : Method := { name := "<init>", desc := "()V", sig := { parameters := [], returnType := none }, accessFlags := 1, code := none }
/-- java/lang/Object -/
def k0 : Class := { plain "java/lang/Object" none with
  accessFlags := 33
  interfaces := #[]
  cf := some (fileOf pool0 8 #[] #[{ accessFlags := 1, nameIndex := 5, descriptorIndex := 6, attributes := #[] }] 33 0 #[] #[])
  fields := #[]
  methods := #[k0m0]
  instanceTypes := #[]
  staticTypes := #[]
  resolved := Array.replicate 124 none
  statics := none }

def pool1 : Array CpInfo := pool [(2, .class_ 4), (1, u "java/lang/Object"), (0, u "<init>"), (0, u "()V"), (0, .class_ 8), (0, u "com/example/nautiloid/nautiloid/lang/Atom"), (0, .fieldref 7 10), (0, .nameAndType 11 12), (0, u "INTEGERS"), (0, u "Lcom/example/nautiloid/nautiloid/lang/Atom;"), (0, .fieldref 7 14), (0, .nameAndType 15 12), (0, u "NATURALS"), (0, .fieldref 7 17), (0, .nameAndType 18 12), (0, u "POSITIVE_NATURALS"), (0, .fieldref 7 20), (0, .nameAndType 21 12), (0, u "BOOLEANS"), (0, .fieldref 7 23), (0, .nameAndType 24 12), (0, u "TRUE"), (0, .fieldref 7 26), (0, .nameAndType 27 12), (0, u "FALSE"), (0, .fieldref 7 29), (0, .nameAndType 30 12), (0, u "SUCCESSOR"), (0, .fieldref 7 32), (0, .nameAndType 33 12), (0, u "PREDECESSOR"), (0, .fieldref 7 35), (0, .nameAndType 36 12), (0, u "EMPTY_SET"), (0, .fieldref 7 38), (0, .nameAndType 39 12), (0, u "IDENTITY"), (0, .fieldref 7 41), (0, .nameAndType 42 12), (0, u "FIRST_PROJECTION"), (0, .fieldref 7 44), (0, .nameAndType 45 12), (0, u "SECOND_PROJECTION"), (0, .integer 2147483647), (0, .methodref 7 48), (0, .nameAndType 49 50), (0, u "isGeneric"), (0, u "()Z"), (0, .class_ 52), (0, u "com/example/nautiloid/nautiloid/lang/AtomIsGenericPinLaw"), (2, u "law"), (0, u "(I)Z")] 5

def k1m0 : Method := { name := "<init>", desc := "()V", sig := { parameters := [], returnType := none }, accessFlags := 2, code := none }
def k1c1 : Code := { maxStack := 4, maxLocals := 5, code := code, exceptionTable := #[], attributes := #[] }
def k1m1 : Method := { name := "law", desc := "(I)Z", sig := { parameters := [.int], returnType := some .boolean }, accessFlags := 9, code := some k1c1 }
/-- com/example/nautiloid/nautiloid/lang/AtomIsGenericPinLaw -/
def k1 : Class := { plain "com/example/nautiloid/nautiloid/lang/AtomIsGenericPinLaw" (some 0) with
  accessFlags := 49
  interfaces := #[]
  cf := some (fileOf pool1 51 #[] #[{ accessFlags := 2, nameIndex := 5, descriptorIndex := 6, attributes := #[] }, { accessFlags := 9, nameIndex := 55, descriptorIndex := 56, attributes := #[] }] 49 2 #[] #[])
  fields := #[]
  methods := #[k1m0, k1m1]
  instanceTypes := #[]
  staticTypes := #[]
  resolved := Array.replicate 62 none
  statics := none }

def pool2 : Array CpInfo := pool [(1, .class_ 2), (0, u "java/lang/constant/Constable"), (0, .class_ 4), (0, u "java/lang/Object")] 6

/-- java/lang/constant/Constable -/
def k2 : Class := { plain "java/lang/constant/Constable" (some 0) with
  accessFlags := 1537
  interfaces := #[]
  cf := some (fileOf pool2 1 #[] #[] 1537 3 #[] #[])
  fields := #[]
  methods := #[]
  instanceTypes := #[]
  staticTypes := #[]
  resolved := Array.replicate 11 none
  statics := none }

def pool3 : Array CpInfo := pool [(1, .class_ 2), (0, u "java/lang/Comparable"), (0, .class_ 4), (0, u "java/lang/Object")] 7

/-- java/lang/Comparable -/
def k3 : Class := { plain "java/lang/Comparable" (some 0) with
  accessFlags := 1537
  interfaces := #[]
  cf := some (fileOf pool3 1 #[] #[] 1537 3 #[] #[])
  fields := #[]
  methods := #[]
  instanceTypes := #[]
  staticTypes := #[]
  resolved := Array.replicate 12 none
  statics := none }

def pool4 : Array CpInfo := pool [(1, .class_ 2), (0, u "java/io/Serializable"), (0, .class_ 4), (0, u "java/lang/Object")] 2

/-- java/io/Serializable -/
def k4 : Class := { plain "java/io/Serializable" (some 0) with
  accessFlags := 1537
  interfaces := #[]
  cf := some (fileOf pool4 1 #[] #[] 1537 3 #[] #[])
  fields := #[]
  methods := #[]
  instanceTypes := #[]
  staticTypes := #[]
  resolved := Array.replicate 7 none
  statics := none }

def pool5 : Array CpInfo := pool [(2, .class_ 4), (1, u "java/lang/Enum"), (0, u "name"), (0, u "Ljava/lang/String;"), (2, u "ordinal"), (0, u "I"), (1, .class_ 14), (1, u "java/lang/Object"), (4, u "hash"), (86, .class_ 108), (1, u "java/lang/Enum$EnumDesc"), (2, .class_ 112), (0, u "java/lang/constant/Constable"), (0, .class_ 114), (0, u "java/lang/Comparable"), (0, .class_ 116), (0, u "java/io/Serializable")] 87

/-- java/lang/Enum -/
def k5 : Class := { plain "java/lang/Enum" (some 0) with
  accessFlags := 1057
  interfaces := #[2, 3, 4]
  cf := some (fileOf pool5 2 #[.nestMembers #[106]] #[] 1057 12 #[111, 113, 115] #[{ accessFlags := 18, nameIndex := 5, descriptorIndex := 6, attributes := #[] }, { accessFlags := 18, nameIndex := 9, descriptorIndex := 10, attributes := #[] }, { accessFlags := 2, nameIndex := 19, descriptorIndex := 10, attributes := #[] }])
  fields := #[{ name := "name", type := (.object "java/lang/String"), accessFlags := 18, slot := 0, constantValue := 0 }, { name := "ordinal", type := .int, accessFlags := 18, slot := 1, constantValue := 0 }, { name := "hash", type := .int, accessFlags := 2, slot := 2, constantValue := 0 }]
  methods := #[]
  instanceTypes := #[(.object "java/lang/String"), .int, .int]
  staticTypes := #[]
  resolved := Array.replicate 204 none
  statics := none }

def pool6 : Array CpInfo := pool [(1, .class_ 2), (0, u "com/example/nautiloid/nautiloid/lang/Atom"), (2, u "INTEGERS"), (0, u "Lcom/example/nautiloid/nautiloid/lang/Atom;"), (2, u "NATURALS"), (2, u "POSITIVE_NATURALS"), (2, u "BOOLEANS"), (2, u "TRUE"), (2, u "FALSE"), (2, u "SUCCESSOR"), (2, u "PREDECESSOR"), (2, u "EMPTY_SET"), (2, u "IDENTITY"), (2, u "FIRST_PROJECTION"), (2, u "SECOND_PROJECTION"), (2, u "$VALUES"), (0, u "[Lcom/example/nautiloid/nautiloid/lang/Atom;"), (6, .class_ 52), (1, u "java/lang/Enum"), (8, u "symbol"), (0, u "Ljava/lang/String;"), (0, .fieldref 1 64), (0, .nameAndType 65 66), (0, u "type"), (0, u "Lcom/example/nautiloid/nautiloid/lang/Type;"), (65, u "isGeneric"), (0, u "()Z")] 8

def k6c0 : Code := { maxStack := 1, maxLocals := 1, code := prog_75_method_5_code, exceptionTable := #[], attributes := #[] }
def k6m0 : Method := { name := "isGeneric", desc := "()Z", sig := { parameters := [], returnType := some .boolean }, accessFlags := 1, code := some k6c0 }
/-- com/example/nautiloid/nautiloid/lang/Atom -/
def k6 : Class := { plain "com/example/nautiloid/nautiloid/lang/Atom" (some 5) with
  accessFlags := 16433
  interfaces := #[]
  cf := some (fileOf pool6 1 #[] #[{ accessFlags := 1, nameIndex := 132, descriptorIndex := 133, attributes := #[] }] 16433 50 #[] #[{ accessFlags := 16409, nameIndex := 5, descriptorIndex := 6, attributes := #[] }, { accessFlags := 16409, nameIndex := 9, descriptorIndex := 6, attributes := #[] }, { accessFlags := 16409, nameIndex := 12, descriptorIndex := 6, attributes := #[] }, { accessFlags := 16409, nameIndex := 15, descriptorIndex := 6, attributes := #[] }, { accessFlags := 16409, nameIndex := 18, descriptorIndex := 6, attributes := #[] }, { accessFlags := 16409, nameIndex := 21, descriptorIndex := 6, attributes := #[] }, { accessFlags := 16409, nameIndex := 24, descriptorIndex := 6, attributes := #[] }, { accessFlags := 16409, nameIndex := 27, descriptorIndex := 6, attributes := #[] }, { accessFlags := 16409, nameIndex := 30, descriptorIndex := 6, attributes := #[] }, { accessFlags := 16409, nameIndex := 33, descriptorIndex := 6, attributes := #[] }, { accessFlags := 16409, nameIndex := 36, descriptorIndex := 6, attributes := #[] }, { accessFlags := 16409, nameIndex := 39, descriptorIndex := 6, attributes := #[] }, { accessFlags := 18, nameIndex := 61, descriptorIndex := 62, attributes := #[] }, { accessFlags := 18, nameIndex := 65, descriptorIndex := 66, attributes := #[] }, { accessFlags := 4122, nameIndex := 42, descriptorIndex := 43, attributes := #[] }])
  fields := #[{ name := "INTEGERS", type := (.object "com/example/nautiloid/nautiloid/lang/Atom"), accessFlags := 16409, slot := 0, constantValue := 0 }, { name := "NATURALS", type := (.object "com/example/nautiloid/nautiloid/lang/Atom"), accessFlags := 16409, slot := 1, constantValue := 0 }, { name := "POSITIVE_NATURALS", type := (.object "com/example/nautiloid/nautiloid/lang/Atom"), accessFlags := 16409, slot := 2, constantValue := 0 }, { name := "BOOLEANS", type := (.object "com/example/nautiloid/nautiloid/lang/Atom"), accessFlags := 16409, slot := 3, constantValue := 0 }, { name := "TRUE", type := (.object "com/example/nautiloid/nautiloid/lang/Atom"), accessFlags := 16409, slot := 4, constantValue := 0 }, { name := "FALSE", type := (.object "com/example/nautiloid/nautiloid/lang/Atom"), accessFlags := 16409, slot := 5, constantValue := 0 }, { name := "SUCCESSOR", type := (.object "com/example/nautiloid/nautiloid/lang/Atom"), accessFlags := 16409, slot := 6, constantValue := 0 }, { name := "PREDECESSOR", type := (.object "com/example/nautiloid/nautiloid/lang/Atom"), accessFlags := 16409, slot := 7, constantValue := 0 }, { name := "EMPTY_SET", type := (.object "com/example/nautiloid/nautiloid/lang/Atom"), accessFlags := 16409, slot := 8, constantValue := 0 }, { name := "IDENTITY", type := (.object "com/example/nautiloid/nautiloid/lang/Atom"), accessFlags := 16409, slot := 9, constantValue := 0 }, { name := "FIRST_PROJECTION", type := (.object "com/example/nautiloid/nautiloid/lang/Atom"), accessFlags := 16409, slot := 10, constantValue := 0 }, { name := "SECOND_PROJECTION", type := (.object "com/example/nautiloid/nautiloid/lang/Atom"), accessFlags := 16409, slot := 11, constantValue := 0 }, { name := "symbol", type := (.object "java/lang/String"), accessFlags := 18, slot := 3, constantValue := 0 }, { name := "type", type := (.object "com/example/nautiloid/nautiloid/lang/Type"), accessFlags := 18, slot := 4, constantValue := 0 }, { name := "$VALUES", type := (.array (.object "com/example/nautiloid/nautiloid/lang/Atom")), accessFlags := 4122, slot := 12, constantValue := 0 }]
  methods := #[k6m0]
  instanceTypes := #[(.object "java/lang/String"), .int, .int, (.object "java/lang/String"), (.object "com/example/nautiloid/nautiloid/lang/Type")]
  staticTypes := #[(.object "com/example/nautiloid/nautiloid/lang/Atom"), (.object "com/example/nautiloid/nautiloid/lang/Atom"), (.object "com/example/nautiloid/nautiloid/lang/Atom"), (.object "com/example/nautiloid/nautiloid/lang/Atom"), (.object "com/example/nautiloid/nautiloid/lang/Atom"), (.object "com/example/nautiloid/nautiloid/lang/Atom"), (.object "com/example/nautiloid/nautiloid/lang/Atom"), (.object "com/example/nautiloid/nautiloid/lang/Atom"), (.object "com/example/nautiloid/nautiloid/lang/Atom"), (.object "com/example/nautiloid/nautiloid/lang/Atom"), (.object "com/example/nautiloid/nautiloid/lang/Atom"), (.object "com/example/nautiloid/nautiloid/lang/Atom"), (.array (.object "com/example/nautiloid/nautiloid/lang/Atom"))]
  resolved := Array.replicate 142 none
  statics := some 0 }

def pool7 : Array CpInfo := pool [(2, .class_ 4), (1, u "java/lang/Object"), (0, u "<init>"), (0, u "()V"), (0, .class_ 8), (0, u "java/lang/Record")] 13

def k7m0 : Method := { name := "<init>", desc := "()V", sig := { parameters := [], returnType := none }, accessFlags := 4, code := none }
/-- java/lang/Record -/
def k7 : Class := { plain "java/lang/Record" (some 0) with
  accessFlags := 1057
  interfaces := #[]
  cf := some (fileOf pool7 7 #[] #[{ accessFlags := 4, nameIndex := 5, descriptorIndex := 6, attributes := #[] }] 1057 2 #[] #[])
  fields := #[]
  methods := #[k7m0]
  instanceTypes := #[]
  staticTypes := #[]
  resolved := Array.replicate 22 none
  statics := none }

def pool8 : Array CpInfo := pool [(14, .class_ 16), (1, u "com/example/nautiloid/nautiloid/lang/Type"), (0, u "INTEGER"), (0, u "Lcom/example/nautiloid/nautiloid/lang/Type;"), (5, u "BOOLEAN"), (0, .class_ 26), (0, u "java/lang/Object")] 14

/-- com/example/nautiloid/nautiloid/lang/Type -/
def k8 : Class := { plain "com/example/nautiloid/nautiloid/lang/Type" (some 0) with
  accessFlags := 1537
  interfaces := #[]
  cf := some (fileOf pool8 14 #[] #[] 1537 25 #[] #[{ accessFlags := 25, nameIndex := 17, descriptorIndex := 18, attributes := #[] }, { accessFlags := 25, nameIndex := 24, descriptorIndex := 18, attributes := #[] }])
  fields := #[{ name := "INTEGER", type := (.object "com/example/nautiloid/nautiloid/lang/Type"), accessFlags := 25, slot := 0, constantValue := 0 }, { name := "BOOLEAN", type := (.object "com/example/nautiloid/nautiloid/lang/Type"), accessFlags := 25, slot := 1, constantValue := 0 }]
  methods := #[]
  instanceTypes := #[]
  staticTypes := #[(.object "com/example/nautiloid/nautiloid/lang/Type"), (.object "com/example/nautiloid/nautiloid/lang/Type")]
  resolved := Array.replicate 41 none
  statics := none }

def pool9 : Array CpInfo := pool [(2, .class_ 4), (1, u "java/lang/Record"), (3, u "element"), (7, .class_ 18), (1, u "com/example/nautiloid/nautiloid/lang/PowerSetType"), (0, u "Lcom/example/nautiloid/nautiloid/lang/Type;"), (9, .class_ 31), (1, u "com/example/nautiloid/nautiloid/lang/Type")] 47

/-- com/example/nautiloid/nautiloid/lang/PowerSetType -/
def k9 : Class := { plain "com/example/nautiloid/nautiloid/lang/PowerSetType" (some 7) with
  accessFlags := 49
  interfaces := #[8]
  cf := some (fileOf pool9 16 #[] #[] 49 2 #[29] #[{ accessFlags := 18, nameIndex := 8, descriptorIndex := 19, attributes := #[] }])
  fields := #[{ name := "element", type := (.object "com/example/nautiloid/nautiloid/lang/Type"), accessFlags := 18, slot := 0, constantValue := 0 }]
  methods := #[]
  instanceTypes := #[(.object "com/example/nautiloid/nautiloid/lang/Type")]
  staticTypes := #[]
  resolved := Array.replicate 79 none
  statics := none }

def pool10 : Array CpInfo := pool [(2, .class_ 4), (1, u "java/lang/Record"), (0, u "<init>"), (0, u "()V"), (17, .class_ 26), (1, u "com/example/nautiloid/nautiloid/lang/BooleanType"), (16, .class_ 44), (0, u "com/example/nautiloid/nautiloid/lang/Type")] 25

def k10m0 : Method := { name := "<init>", desc := "()V", sig := { parameters := [], returnType := none }, accessFlags := 1, code := none }
/-- com/example/nautiloid/nautiloid/lang/BooleanType -/
def k10 : Class := { plain "com/example/nautiloid/nautiloid/lang/BooleanType" (some 7) with
  accessFlags := 49
  interfaces := #[8]
  cf := some (fileOf pool10 24 #[] #[{ accessFlags := 1, nameIndex := 5, descriptorIndex := 6, attributes := #[] }] 49 2 #[43] #[])
  fields := #[]
  methods := #[k10m0]
  instanceTypes := #[]
  staticTypes := #[]
  resolved := Array.replicate 70 none
  statics := none }

def pool11 : Array CpInfo := pool [(1, u "java/lang/Cloneable"), (0, .class_ 1), (0, u "java/lang/Object"), (0, .class_ 3)] 3

/-- java/lang/Cloneable -/
def k11 : Class := { plain "java/lang/Cloneable" (some 0) with
  accessFlags := 1537
  interfaces := #[]
  cf := some (fileOf pool11 2 #[] #[] 1537 4 #[] #[])
  fields := #[]
  methods := #[]
  instanceTypes := #[]
  staticTypes := #[]
  resolved := Array.replicate 8 none
  statics := none }

/-- the primitive byte -/
def k12 : Class := { plain "byte" none with kind := .primitive 'B', accessFlags := 0x411 }
/-- [B -/
def k13 : Class := { plain "[B" (some 0) with kind := .array 12 .byte, interfaces := #[11, 4], accessFlags := 1041 }

/-- the primitive int -/
def k14 : Class := { plain "int" none with kind := .primitive 'I', accessFlags := 0x411 }
/-- [I -/
def k15 : Class := { plain "[I" (some 0) with kind := .array 14 .int, interfaces := #[11, 4], accessFlags := 1041 }

/-- [Lcom/example/nautiloid/nautiloid/lang/Atom; -/
def k16 : Class := { plain "[Lcom/example/nautiloid/nautiloid/lang/Atom;" (some 0) with kind := .array 6 (.object "com/example/nautiloid/nautiloid/lang/Atom"), interfaces := #[11, 4], accessFlags := 1041 }

def heap : Heap := #[{ cls := 6, slots := #[.ref 3, .ref 4, .ref 5, .ref 6, .ref 7, .ref 8, .ref 9, .ref 10, .ref 11, .ref 12, .ref 13, .ref 14, .null], vm := .statics 6 },
  { cls := 9, slots := #[.null], vm := .none },
  { cls := 10, slots := #[], vm := .none },
  { cls := 6, slots := #[.null, .int 0, .int 0, .null, .ref 1], vm := .none },
  { cls := 6, slots := #[.null, .int 0, .int 0, .null, .ref 1], vm := .none },
  { cls := 6, slots := #[.null, .int 0, .int 0, .null, .ref 1], vm := .none },
  { cls := 6, slots := #[.null, .int 0, .int 0, .null, .ref 1], vm := .none },
  { cls := 6, slots := #[.null, .int 0, .int 0, .null, .ref 2], vm := .none },
  { cls := 6, slots := #[.null, .int 0, .int 0, .null, .ref 2], vm := .none },
  { cls := 6, slots := #[.null, .int 0, .int 0, .null, .ref 1], vm := .none },
  { cls := 6, slots := #[.null, .int 0, .int 0, .null, .ref 1], vm := .none },
  { cls := 6, slots := #[.null, .int 0, .int 0, .null, .null], vm := .none },
  { cls := 6, slots := #[.null, .int 0, .int 0, .null, .null], vm := .none },
  { cls := 6, slots := #[.null, .int 0, .int 0, .null, .null], vm := .none },
  { cls := 6, slots := #[.null, .int 0, .int 0, .null, .null], vm := .none }]
def classes : Array Class := #[k0, k1, k2, k3, k4, k5, k6, k7, k8, k9, k10, k11, k12, k13, k14, k15, k16]
def interned : List (Array UInt16 × Addr) := []
def slotsUsed : Nat := 74
def theMethod : MethodId := ⟨1, 1⟩
def args0 : Array Value := #[.int 5]
def aboutOver (below : List Frame) : State where
  vm := { classes := classes, interned := interned.toArray }
  heap := heap
  slotsUsed := slotsUsed
  threads := #[{ frames := .invoking theMethod args0 :: below }]
def below0 : List Frame := [.native { method := ⟨0, 0⟩, args := #[] }]
def about1 : State := aboutOver below0
def p0 : Program := .bare "" "" ""
def e0 : Env := launch0.env 0 0 0
theorem w_frames : about1.frames = Frame.invoking theMethod args0 :: below0 := rfl
set_option maxRecDepth 65536 in
theorem w_args : argsFit about1.vm theMethod args0 = true := by decide +kernel
set_option maxRecDepth 65536 in
theorem w_heap : heapFits about1 = true := by decide +kernel
set_option maxRecDepth 65536 in
theorem w_runnable : about1.curStatus? = some .runnable := by decide +kernel
set_option maxRecDepth 65536 in
theorem w_alone : about1.alone = true := by decide +kernel
set_option maxRecDepth 65536 in
theorem w_named : about1.methodNamed? x = some theMethod := by decide +kernel
set_option maxRecDepth 65536 in
theorem w_hears : about1.hears theMethod below0 = true := by decide +kernel
set_option maxRecDepth 65536 in
theorem w_ripe : about1.ripe theMethod args0 below0 = true := by decide +kernel
theorem w_running : about1.status = .running := rfl
set_option maxRecDepth 65536 in
theorem w_room : about1.hasRoom e0.platform room_1 = true :=
  launch0.hasRoom_least _ room_1 (by decide +kernel) (by decide +kernel) (by decide +kernel) (by decide +kernel) (by decide +kernel) (by decide +kernel)
theorem allAtoms_all (ts : List Jvm.Cond) (a : Array Jvm.Value) (st : Jvm.State) : (allAtoms ts).before a st = ts.all (fun c => c.before a st) := by
  induction ts with
  | nil => rfl
  | cons c t ih =>
    show (Jvm.Cond.and c (allAtoms t)).before a st = _
    rw [Jvm.Cond.before_and, ih, List.all_cons]
def words1 : List Jvm.Cond := Jvm.Cond.code x code maxLocals ret :: tables_1
/-- a 'code' word, met by the world's own term for the bytes: nothing is compared byte by byte -/
theorem code_word {y : MethodName} {bytes : ByteArray} {mx : Nat} {rt : Option FieldType} {a : Array Value} {s : State} {m : MethodId} {meth : Method} {c : Code} (h1 : s.methodNamed? y = some m) (h2 : s.vm.method? m = some meth) (h3 : meth.code = some c) (h4 : c.code = bytes)
    (h5 : (c.maxLocals == mx && c.exceptionTable.isEmpty && decide (c.maxStack ≤ mostOperands) && decide (meth.sig.returnType = rt) && !meth.locks && decide (parseMethodDescriptor y.desc = some meth.sig)) = true) : (Jvm.Cond.code y bytes mx rt).before a s = true := by
  simp only [Bool.and_eq_true, beq_iff_eq, Bool.not_eq_true', decide_eq_true_eq] at h5
  obtain ⟨⟨⟨⟨⟨g1, g2⟩, g3⟩, g4⟩, g5⟩, g6⟩ := h5
  simp [Cond.before, Cond.holds, Cond.value, h1, h2, h3, h4, g1, g2, g3, g4, g5, g6]
def isCode : Jvm.Cond → Bool
  | .code _ _ _ _ => true
  | _ => false
theorem all_split {L : List Jvm.Cond} {P : Jvm.Cond → Bool} (h1 : L.all (fun c => isCode c || P c) = true) (h2 : ∀ c ∈ L.filter isCode, P c = true) : L.all P = true := by
  refine List.all_eq_true.mpr fun c hc => ?_
  have h := List.all_eq_true.mp h1 c hc
  rcases Bool.eq_false_or_eq_true (isCode c) with hi | hi
  · exact h2 c (List.mem_filter.mpr ⟨hc, hi⟩)
  · simpa [hi] using h
set_option maxRecDepth 65536 in
theorem w_c0 : (Jvm.Cond.code x code maxLocals ret).before args0 about1 = true := code_word (m := ⟨1, 1⟩) (meth := k1m1) (c := k1c1) (by decide +kernel) rfl rfl rfl (by decide +kernel)
set_option maxRecDepth 65536 in
theorem w_c1 : (Jvm.Cond.code ({ cls := "com/example/nautiloid/nautiloid/lang/Atom", name := "isGeneric", desc := "()Z" } : Jvm.MethodName) prog_75_method_5_code (1 : Nat) (Option.some Jvm.ClassFile.FieldType.boolean)).before args0 about1 = true := code_word (m := ⟨6, 0⟩) (meth := k6m0) (c := k6c0) (by decide +kernel) rfl rfl rfl (by decide +kernel)
def codes1 : List Jvm.Cond := [Jvm.Cond.code x code maxLocals ret, Jvm.Cond.code ({ cls := "com/example/nautiloid/nautiloid/lang/Atom", name := "isGeneric", desc := "()Z" } : Jvm.MethodName) prog_75_method_5_code (1 : Nat) (Option.some Jvm.ClassFile.FieldType.boolean)]
set_option maxRecDepth 65536 in
theorem codes_eq : words1.filter isCode = codes1 := rfl
theorem w_codes : ∀ c ∈ words1.filter isCode, c.before args0 about1 = true := by
  rw [codes_eq]
  intro c hc
  simp only [codes1, List.mem_cons, List.not_mem_nil, or_false] at hc
  rcases hc with rfl | rfl
  · exact w_c0
  · exact w_c1
set_option maxRecDepth 65536 in
theorem w_t1 : (words1.take 24).all (fun c => isCode c || c.before args0 about1) = true := by decide +kernel
set_option maxRecDepth 65536 in
theorem w_t2 : (words1.drop 24).all (fun c => isCode c || c.before args0 about1) = true := by decide +kernel
theorem w_tables : (allAtoms (Jvm.Cond.code x code maxLocals ret :: tables_1)).before args0 about1 = true := by
  rw [allAtoms_all]
  show words1.all (fun c => c.before args0 about1) = true
  refine all_split ?_ w_codes
  rw [← List.take_append_drop 24 words1, List.all_append, w_t1, w_t2]
  rfl
set_option maxRecDepth 65536 in
theorem w_case : (Jvm.Cond.and given_1 narrow_1).before args0 about1 = true := by decide +kernel
theorem w_applies : (headSpec (Jvm.Cond.code x code maxLocals ret :: tables_1) room_1).applies x e0.platform about1 = true :=
  (Spec.applies_iff w_frames).mpr ⟨w_running, w_runnable, w_alone, w_named, w_hears, w_ripe, w_room, w_tables⟩
theorem atStart : AtStart classFile x code maxLocals ret World_1 tables_1 room_1 Calls_1 rest_1 Pre_1 launch0 p0 e0 about1 theMethod args0 below0 :=
  ⟨lists_1, trivial, launch0.admits_env _ _ _, launch0.least_env, fairChoices_fair.cas, fairChoices_fair.clock, w_frames, w_args, w_heap, w_applies, trivial, trivial, w_case⟩
end start1
theorem witness_1 : WitnessClaimed_1 := ⟨start1.p0, start1.e0, start1.about1, start1.theMethod, start1.args0, start1.below0, start1.atStart⟩
end Jvm.Pilot.@@N@@
