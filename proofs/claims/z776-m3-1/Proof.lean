import JvmDerived
import JvmDerived.Pilot.@@N@@Statement
import JvmDerived.Pilot.@@N@@Code
set_option linter.unusedVariables false
set_option linter.unusedSimpArgs false
namespace Jvm.RoadKit
open Sem ClassFile Op Lib Jvm.Stand Jvm.Free Jvm.LawKit
section New
variable {p : Program} {l : Launch} {e : Env} {R : Room} {s : State} {m : MethodId} {args : Array Value} {below : List Frame} {meth : Method} {c : Code} {T : State} {locs : List Loc} {cells slots : Nat}
theorem retI (X : Stand p l e R s m args below meth c T locs cells slots) (hx : p.tables.exec = Jvm.exec) {pc : Nat} {Ls : Array Slot} {z : Int32} {rest : List Value} (hret : meth.sig.returnType = some .int) (hd : decode c.code pc = .ok (.ireturn, 1)) {fs : List Frame}
    (hl : ∀ (f : JFrame) (acts : List Action), f.method = m → f.locked = none → f.entered = [] → (doReturn e (T.setTop f) acts (some (.int z))).1 = T.setFrames fs) : Steps p.tables e below (T.setTop (mkF m pc Ls (.int z :: rest))) (T.setFrames fs) := by
  have hm' : T.vm.method? m = some meth := X.method'
  have hn : narrow .int (.int z) = .int z := rfl
  show Steps p.tables e below (T.setTop { method := m, pc := pc, locals := Ls, stack := _ :: rest, locked := none }) _
  jvm_step X.here [X.here.top, hx, hd, hm', hret, hn]
  first | (intro acts; rw [hl _ acts rfl rfl rfl]) | rw [hl _ _ rfl rfl rfl]
  exact Steps.refl _
end New
end Jvm.RoadKit
@@BLOCK:NumsL.lean.txt@@
namespace Jvm.Pilot.@@N@@
open Jvm Jvm.ClassFile Sem Op Lib Jvm.Free Jvm.Stand Jvm.LawKit Jvm.RoadKit Bundle Jvm.Pilot.@@N@@.Jvm.D
abbrev z_s0 : String := "com/example/tallywire/tallywire/rules/ElementPath$NameCounts"
abbrev z_s1 : String := "com/example/tallywire/tallywire/rules/ElementPath"
abbrev z_s2 : String := "java/lang/String"
abbrev z_s3 : String := "com/example/tallywire/tallywire/rules/ElementPath$Level"
abbrev z_s4 : String := "[Lcom/example/tallywire/tallywire/rules/ElementPath$Level;"
abbrev z_s5 : String := "Ljava/lang/String;"
abbrev z_s6 : String := "Lcom/example/tallywire/tallywire/rules/ElementPath$NameCounts;"
abbrev z_s7 : String := "(Ljava/lang/String;)V"
abbrev z_s8 : String := "[Ljava/lang/String;"
abbrev z_s9 : String := "(Ljava/lang/String;)I"
theorem z_w {Z : State} {a0 : Array Value} (hw : ∀ d ∈ tables_1, d.before a0 Z = true) {d : Jvm.Cond} (i : Nat) (h : tables_1[i]? = some d) : d.before a0 Z = true := hw _ (List.mem_of_getElem? h)
theorem z_nb {a b k : Nat} (h : a < k) (g : b = k) : a ≠ b := fun q => by omega
theorem z_nc {a b k : Nat} (h : a < k) (g : k ≤ b) : a ≠ b := fun q => by omega
def aa0 (p : Program) (e : Env) (below : List Frame) (P : Outcome → State → Prop) (S : State) : Prop :=
  ∃ s₂ o, Steps p.tables e below S s₂ ∧ s₂.status = .running ∧ Ended s₂ below o ∧ P o s₂
abbrev ab3 (l : Launch) (Z : State) (y : MethodName) (bytes : ByteArray) (maxL : Nat) (rt : Option FieldType) (ws : List Jvm.Cond) (rm : Room) (as' : Array Value) (h0 : Heap) (Q : Option Value → Heap → List Loc → Prop) : Prop :=
  MetFree l y (head1 (Jvm.Cond.code y bytes maxL rt :: ws) rm) (fun a U => a = as' ∧ Z.Warmed39 U.vm ∧ U.heap = h0) (fun _ _ _ _ _ => True) (fun _ U o U' => ∃ v L, o = .returned v ∧ Q v U'.heap L ∧ FrameEnd U o U' L rm.cells rm.slots)
def co3 (Q : Option Value → Heap → List Loc → Prop) (s : State) (kc ks : Nat) (P : Outcome → State → Prop) : Prop := ∀ v U L, Q v U.heap L → FrameEnd s (.returned v) U L kc ks → P (.returned v) U
section Own
variable {p : Program} {l : Launch} {e : Env} {R : Room} {s : State} {m : MethodId} {args : Array Value} {below : List Frame} {meth : Method} {c : Code} {T : State} {locs : List Loc} {cells slots : Nat} {Z : State} {a0 : Array Value} {h : Heap} {P : Outcome → State → Prop}
theorem an1 {S S' : State} (q : ∀ t, Steps p.tables e below S' t → Steps p.tables e below S t) (k : aa0 p e below P S') : aa0 p e below P S := by
  obtain ⟨a, b, c, d⟩ := k
  exact ⟨a, b, q _ c, d⟩
theorem cp3 {S S' : State} (q : Steps p.tables e below S S') (k : aa0 p e below P S') : aa0 p e below P S := an1 (fun _ r => q.trans r) k
theorem al3 {y : MethodName} {bytes : ByteArray} {maxL : Nat} {rt : Option FieldType} {ws : List Jvm.Cond} {rm : Room} {as' : Array Value} {h0 : Heap} {Q : Option Value → Heap → List Loc → Prop} (hpl : plainFor y = true)
    (body : ∀ (p : Program) (e : Env) (s : State) (m : MethodId) (below : List Frame) (meth : Method) (c : Code) (s₁ : State) (P : Outcome → State → Prop), p.tables.exec = Jvm.exec → c.code = bytes → c.maxLocals = maxL → meth.sig.returnType = rt → meth.locks = false → s.vm.findClass y.cls = some m.cls → meth.name = y.name → Z.Warmed39 s.vm →
      Stand p l e rm s m as' below meth c s₁ [] 0 0 → s₁.heap = h0 → co3 Q s rm.cells rm.slots P → aa0 p e below P (s₁.setTop (entryFrame m as' maxL))) :
    ab3 l Z y bytes maxL rt ws rm as' h0 Q := by
  refine MetFree.of_bodySF hpl hisR ?_
  intro p e s m args below meth c s₁ Bd hml0 hP hK
  obtain ⟨rfl, hZ, hh⟩ := hP
  exact body p e s m below meth c s₁ _ Bd.exec Bd.bytes hml0 Bd.returns Bd.notSynchronized (findClass_of_methodNamed Bd.named) (name_of_methodNamed Bd.named Bd.method).1 hZ (Stand.of_body Bd) (by rw [← hh, Bd.state]; rfl) (fun v U L q f => ⟨v, L, rfl, q, f⟩)
theorem ac4 {g g' : JFrame} (q : g = g') (k : aa0 p e below P (T.setTop g')) : aa0 p e below P (T.setTop g) := q ▸ k
theorem ao7 (X : Stand p l e R s m args below meth c T locs cells slots) (hx : p.tables.exec = Jvm.exec) (hlk : meth.locks = false) {kc ks : Nat} {Q : Option Value → Heap → List Loc → Prop} (hP : co3 Q s kc ks P)
    {pc : Nat} {Ls : Array Slot} {z : Int32} {rest : List Value} (hret : meth.sig.returnType = some .int) (hd : decode c.code pc = .ok (.ireturn, 1)) (h1 : cells ≤ kc) (h2 : slots ≤ ks) (hq : Q (some (.int z)) T.heap locs) : aa0 p e below P (T.setTop (mkF m pc Ls (.int z :: rest))) := by
  obtain ⟨fs, hr, hrun, hended, hW, hsame⟩ := X.leave (v := some (.int z)) (fun h => by rw [hret] at h; cases h) hlk
  exact ⟨_, _, retI X hx hret hd hr, hrun, hended, hP _ _ locs hq ⟨⟨_, rfl⟩, hW, hsame.mono h1 h2⟩⟩
theorem bd1 (X : Stand p l e R s m args below meth c T locs cells slots) (hx : p.tables.exec = Jvm.exec) (hlk : meth.locks = false) {kc ks : Nat} {Q : Option Value → Heap → List Loc → Prop} (hP : co3 Q s kc ks P)
    {pc : Nat} {Ls : Array Slot} {z : Int32} {t : FieldType} {rest : List Value} (ht : t = .boolean ∨ t = .byte ∨ t = .char ∨ t = .short) (hret : meth.sig.returnType = some t) (hd : decode c.code pc = .ok (.ireturn, 1)) (h1 : cells ≤ kc) (h2 : slots ≤ ks) (hq : Q (some (.int (nar t z))) T.heap locs) : aa0 p e below P (T.setTop (mkF m pc Ls (.int z :: rest))) := by
  obtain ⟨fs, hr, hrun, hended, hW, hsame⟩ := X.leave (v := some (.int (nar t z))) (fun h => by rw [hret] at h; cases h) hlk
  exact ⟨_, _, retN X hx hret ht hd hr, hrun, hended, hP _ _ locs hq ⟨⟨_, rfl⟩, hW, hsame.mono h1 h2⟩⟩
theorem ej7 (X : Stand p l e R s m args below meth c T locs cells slots) (hx : p.tables.exec = Jvm.exec) (hlk : meth.locks = false) {kc ks : Nat} {Q : Option Value → Heap → List Loc → Prop} (hP : co3 Q s kc ks P)
    {pc : Nat} {Ls : Array Slot} {z : Int64} {rest : List Value} (hret : meth.sig.returnType = some .long) (hd : decode c.code pc = .ok (.lreturn, 1)) (h1 : cells ≤ kc) (h2 : slots ≤ ks) (hq : Q (some (.long z)) T.heap locs) : aa0 p e below P (T.setTop (mkF m pc Ls (.long z :: rest))) := by
  obtain ⟨fs, hr, hrun, hended, hW, hsame⟩ := X.leave (v := some (.long z)) (fun h => by rw [hret] at h; cases h) hlk
  exact ⟨_, _, retOut X hx hret rfl (Or.inr (Or.inl ⟨rfl, rfl, z, rfl⟩)) hd hr, hrun, hended, hP _ _ locs hq ⟨⟨_, rfl⟩, hW, hsame.mono h1 h2⟩⟩
theorem dv0 (X : Stand p l e R s m args below meth c T locs cells slots) (hx : p.tables.exec = Jvm.exec) (hlk : meth.locks = false) {kc ks : Nat} {Q : Option Value → Heap → List Loc → Prop} (hP : co3 Q s kc ks P)
    {pc : Nat} {Ls : Array Slot} {w : Value} {t : FieldType} {rest : List Value} (hw : w.isRef = true) (ht : t.isReference = true) (hret : meth.sig.returnType = some t) (hd : decode c.code pc = .ok (.areturn, 1)) (h1 : cells ≤ kc) (h2 : slots ≤ ks) (hq : Q (some w) T.heap locs) : aa0 p e below P (T.setTop (mkF m pc Ls (w :: rest))) := by
  obtain ⟨fs, hr, hrun, hended, hW, hsame⟩ := X.leave (v := some w) (fun h => by rw [hret] at h; cases h) hlk
  have hn : narrow t w = w := by rcases ref_cases hw with rfl | ⟨a, rfl⟩ <;> cases t <;> rfl
  exact ⟨_, _, retOut X hx hret hn (Or.inr (Or.inr (Or.inr (Or.inr ⟨rfl, ht, hw⟩)))) hd hr, hrun, hended, hP _ _ locs hq ⟨⟨_, rfl⟩, hW, hsame.mono h1 h2⟩⟩
theorem bj0 (X : Stand p l e R s m args below meth c T locs cells slots) (hx : p.tables.exec = Jvm.exec) (hlk : meth.locks = false) {kc ks : Nat} {Q : Option Value → Heap → List Loc → Prop} (hP : co3 Q s kc ks P)
    {pc : Nat} {Ls : Array Slot} (hret : meth.sig.returnType = none) (hd : decode c.code pc = .ok (.return_, 1)) (h1 : cells ≤ kc) (h2 : slots ≤ ks) (hq : Q none T.heap locs) : aa0 p e below P (T.setTop (mkF m pc Ls [])) := by
  obtain ⟨fs, hr, hrun, hended, hW, hsame⟩ := X.leave (v := none) (fun _ => rfl) hlk
  exact ⟨_, _, X.returnOut hx hret hd hr, hrun, hended, hP _ _ locs hq ⟨⟨_, rfl⟩, hW, hsame.mono h1 h2⟩⟩
theorem dz7 (X : Stand p l e R s m args below meth c T locs cells slots) (hx : p.tables.exec = Jvm.exec) (hZ : Z.Warmed39 s.vm) {own : String} {index : Nat} {y : MethodName} {bytes : ByteArray} {maxL : Nat} {rt : Option FieldType} {rm : Room} {as' : Array Value} {Q : Option Value → Heap → List Loc → Prop}
    (hown : s.vm.findClass own = some m.cls) (w1 : (Jvm.Cond.methodLink own index y).before a0 Z = true) (w2 : (Jvm.Cond.static y).before a0 Z = true) (w3 : (Jvm.Cond.initialized y.cls).before a0 Z = true) (w4 : (Jvm.Cond.code y bytes maxL rt).before a0 Z = true) (hy : y.cls ≠ "java/lang/invoke/MethodHandle" ∧ y.cls ≠ "java/lang/invoke/VarHandle")
    (hM : ab3 l Z y bytes maxL rt [] rm as' h Q) (W : Nat) (hf : rm.frames + 1 ≤ R.frames) (hl : W + (maxL + 11) + rm.locals ≤ R.locals) (eT : T.heap = h) (hc : cells + rm.cells ≤ R.cells) (hs : slots + rm.slots ≤ R.slots)
    {g : JFrame} (hg : g.method = m) (hsize : g.locals.size = c.maxLocals) {argsL rest : List Value} (ha : argsL.toArray = as') (hlen : ∀ sig, parseMethodDescriptor y.desc = some sig → argsL.length = sig.parameters.length) (hstack : g.stack = argsL.reverse ++ rest) (hW : 2 * g.monitorRoom + (rest.map fun v => v.category).sum ≤ W) (hdg : decode c.code g.pc = .ok (.invokestatic index, 3))
    (k : ∀ v T' L, Stand p l e R s m args below meth c T' (locs ++ L) (cells + rm.cells) (slots + rm.slots) → Q v T'.heap L → aa0 p e below P (T'.setTop { g with pc := g.pc + 3, stack := v.toList ++ rest })) : aa0 p e below P (T.setTop g) := by
  obtain ⟨v, vm₁, ⟨T', L', k', n'⟩, -, X', ⟨L, hQ, h1, h2, h3⟩, st⟩ := Jvm.LawKit.callS X hx hown (mvT hZ w1) (mvT hZ w2) (mvT hZ w3) (mvT hZ w4) hy (backOf (W := W) hM hZ w4 w3 hf hl) hg hsize hlen hstack hW hdg (fun _ _ => ⟨ha, eT, hc, hs⟩)
  dsimp only [Pt.U, Pt.locs, Pt.cells, Pt.slots] at X' h1 h2 h3 st hQ
  subst h1 h2 h3
  exact an1 st (k v T' L X' hQ)
theorem d8 (X : Stand p l e R s m args below meth c T locs cells slots) (hx : p.tables.exec = Jvm.exec) (hZ : Z.Warmed39 s.vm) {own : String} {index : Nat} {y : MethodName} {bytes : ByteArray} {maxL : Nat} {rm : Room} {as' : Array Value} {Q : Option Value → Heap → List Loc → Prop}
    (hy1 : y.name = "<init>") (hown : s.vm.findClass own = some m.cls) (w1 : (Jvm.Cond.methodLink own index y).before a0 Z = true) (w2 : (Jvm.Cond.instanceMethod y).before a0 Z = true) (w3 : (Jvm.Cond.initialized y.cls).before a0 Z = true) (w4 : (Jvm.Cond.code y bytes maxL none).before a0 Z = true) (hy : y.cls ≠ "java/lang/invoke/MethodHandle" ∧ y.cls ≠ "java/lang/invoke/VarHandle")
    (hM : ab3 l Z y bytes maxL none [] rm as' h Q) (W : Nat) (hf : rm.frames + 1 ≤ R.frames) (hl : W + (maxL + 11) + rm.locals ≤ R.locals) (eT : T.heap = h) (hc : cells + rm.cells ≤ R.cells) (hs : slots + rm.slots ≤ R.slots)
    {g : JFrame} (hg : g.method = m) (hsize : g.locals.size = c.maxLocals) {a : Addr} {argsL rest : List Value} (ha : (Value.ref a :: argsL).toArray = as') (hlen : ∀ sig, parseMethodDescriptor y.desc = some sig → argsL.length = sig.parameters.length) (hstack : g.stack = argsL.reverse ++ .ref a :: rest) (hW : 2 * g.monitorRoom + (rest.map fun v => v.category).sum ≤ W) (hdg : decode c.code g.pc = .ok (.invokespecial index, 3))
    (k : ∀ v T' L, Stand p l e R s m args below meth c T' (locs ++ L) (cells + rm.cells) (slots + rm.slots) → Q v T'.heap L → aa0 p e below P (T'.setTop { g with pc := g.pc + 3, stack := v.toList ++ rest })) : aa0 p e below P (T.setTop g) := by
  obtain ⟨v, vm₁, ⟨T', L', k', n'⟩, -, X', ⟨L, hQ, h1, h2, h3⟩, st⟩ := X.specialBack hx hy1 hown (mvT hZ w1) (mvT hZ w2) (mvT hZ w4) hy (backOf (W := W) hM hZ w4 w3 hf hl) hg hsize (Steps.refl _) hlen hstack hW hdg (fun _ _ => ⟨ha, eT, hc, hs⟩)
  dsimp only [Pt.U, Pt.locs, Pt.cells, Pt.slots] at X' h1 h2 h3 st hQ
  subst h1 h2 h3
  exact cp3 st (k v T' L X' hQ)
theorem da8 (X : Stand p l e R s m args below meth c T locs cells slots) (hx : p.tables.exec = Jvm.exec) (hZ : Z.Warmed39 s.vm) {own C : String} {index : Nat} {y z : MethodName} {bytes : ByteArray} {maxL : Nat} {rt : Option FieldType} {rm : Room} {as' : Array Value} {Q : Option Value → Heap → List Loc → Prop}
    (hown : s.vm.findClass own = some m.cls) (w1 : (Jvm.Cond.methodLink own index y).before a0 Z = true) (w2 : (Jvm.Cond.declares y).before a0 Z = true) (hnf : NotFace s y) (w5 : (Jvm.Cond.selects C y z).before a0 Z = true) (w6 : (Jvm.Cond.instanceMethod z).before a0 Z = true) (w3 : (Jvm.Cond.initialized z.cls).before a0 Z = true) (w4 : (Jvm.Cond.code z bytes maxL rt).before a0 Z = true) (hy : y.cls ≠ "java/lang/invoke/MethodHandle" ∧ y.cls ≠ "java/lang/invoke/VarHandle")
    {a : Addr} (E : Exa Z h a C) (hM : ab3 l Z z bytes maxL rt [] rm as' h Q) (W : Nat) (hf : rm.frames + 1 ≤ R.frames) (hl : W + (maxL + 11) + rm.locals ≤ R.locals) (eT : T.heap = h) (hc : cells + rm.cells ≤ R.cells) (hs : slots + rm.slots ≤ R.slots)
    {g : JFrame} (hg : g.method = m) (hsize : g.locals.size = c.maxLocals) {argsL rest : List Value} (ha : (Value.ref a :: argsL).toArray = as') (hlen : ∀ sig, parseMethodDescriptor y.desc = some sig → argsL.length = sig.parameters.length) (hstack : g.stack = argsL.reverse ++ .ref a :: rest) (hW : 2 * g.monitorRoom + (rest.map fun v => v.category).sum ≤ W) (hdg : decode c.code g.pc = .ok (.invokevirtual index, 3))
    (k : ∀ v T' L, Stand p l e R s m args below meth c T' (locs ++ L) (cells + rm.cells) (slots + rm.slots) → Q v T'.heap L → aa0 p e below P (T'.setTop { g with pc := g.pc + 3, stack := v.toList ++ rest })) : aa0 p e below P (T.setTop g) := by
  obtain ⟨cB, kB, q1, q2, q3⟩ := isOf hZ eT E
  obtain ⟨v, vm₁, ⟨T', L', k', n'⟩, -, X', ⟨L, hQ, h1, h2, h3⟩, st⟩ := X.virtualBack hx (y := y) (z := z) hown (mvT hZ w1) (mvT hZ w2) hnf (mvT hZ w5) (mvT hZ w6) hy (backOf (W := W) hM hZ w4 w3 hf hl) q1 q3 hg hsize (Steps.refl _) hlen hstack hW hdg (fun _ _ => ⟨ha, eT, hc, hs⟩)
  dsimp only [Pt.U, Pt.locs, Pt.cells, Pt.slots] at X' h1 h2 h3 st hQ
  subst h1 h2 h3
  exact cp3 st (k v T' L X' hQ)
theorem er6 (X : Stand p l e R s m args below meth c T locs cells slots) (hx : p.tables.exec = Jvm.exec) (hZ : Z.Warmed39 s.vm) {own C owner : String} {index : Nat} {x y : MethodName} {bytes : ByteArray} {maxL : Nat} {rt : Option FieldType} {rm : Room} {as' : Array Value} {Q : Option Value → Heap → List Loc → Prop}
    (hown : s.vm.findClass own = some m.cls) (w1 : (Jvm.Cond.methodLink own index x).before a0 Z = true) (w2 : (Jvm.Cond.sameMethod x.cls owner x.name x.desc).before a0 Z = true) (w7 : (Jvm.Cond.declares ⟨owner, x.name, x.desc⟩).before a0 Z = true) (hy : owner ≠ "java/lang/invoke/MethodHandle" ∧ owner ≠ "java/lang/invoke/VarHandle") (w5 : (Jvm.Cond.selects C x y).before a0 Z = true) (w6 : (Jvm.Cond.instanceMethod y).before a0 Z = true) (w3 : (Jvm.Cond.initialized y.cls).before a0 Z = true) (w4 : (Jvm.Cond.code y bytes maxL rt).before a0 Z = true)
    {a : Addr} (E : Exa Z h a C) (hM : ab3 l Z y bytes maxL rt [] rm as' h Q) (W : Nat) (hf : rm.frames + 1 ≤ R.frames) (hl : W + (maxL + 11) + rm.locals ≤ R.locals) (eT : T.heap = h) (hc : cells + rm.cells ≤ R.cells) (hs : slots + rm.slots ≤ R.slots)
    {g : JFrame} (hg : g.method = m) (hsize : g.locals.size = c.maxLocals) {argsL rest : List Value} (ha : (Value.ref a :: argsL).toArray = as') (hlen : ∀ sig, parseMethodDescriptor x.desc = some sig → argsL.length = sig.parameters.length) (hstack : g.stack = argsL.reverse ++ .ref a :: rest) (hW : 2 * g.monitorRoom + (rest.map fun v => v.category).sum ≤ W) (hdg : decode c.code g.pc = .ok (.invokevirtual index, 3))
    (k : ∀ v T' L, Stand p l e R s m args below meth c T' (locs ++ L) (cells + rm.cells) (slots + rm.slots) → Q v T'.heap L → aa0 p e below P (T'.setTop { g with pc := g.pc + 3, stack := v.toList ++ rest })) : aa0 p e below P (T.setTop g) := by
  obtain ⟨cB, kB, q1, q2, q3⟩ := isOf hZ eT E
  obtain ⟨v, vm₁, ⟨T', L', k', n'⟩, -, X', ⟨L, hQ, h1, h2, h3⟩, st⟩ := X.virtualBackUp hx (x := x) (y := y) hown (mvT hZ w1) (mvT hZ w2) (mvT hZ w7) hy (mvT hZ w5) (mvT hZ w6) (backOf (W := W) hM hZ w4 w3 hf hl) q1 q3 hg hsize (Steps.refl _) hlen hstack hW hdg (fun _ _ => ⟨ha, eT, hc, hs⟩)
  dsimp only [Pt.U, Pt.locs, Pt.cells, Pt.slots] at X' h1 h2 h3 st hQ
  subst h1 h2 h3
  exact cp3 st (k v T' L X' hQ)
theorem aw3 {a : Addr} {C : String} (E : Exa Z h a C) : ∃ c : Cell, h[a]? = some c ∧ c.vm.isStatics = false := by obtain ⟨c, k, h1, -, -, h4, -⟩ := E; exact ⟨c, h1, h4⟩
theorem ad2 {h' : Heap} {C n d : String} {v : Value} {ws : List Addr} (F : Sta Z h C n d v) (K : Keep h h' ws) (q : ∀ w ∈ ws, ∃ c : Cell, h[w]? = some c ∧ c.vm.isStatics = false) : Sta Z h' C n d v := by
  obtain ⟨cf, i, k, f, st, cell, h1, h2, h3, h4, h5, h6, h7⟩ := F
  refine ⟨cf, i, k, f, st, cell, h1, h2, h3, h4, K.2.1 st cell h5 (fun hm => ?_), h6, h7⟩
  obtain ⟨c', e1, e2⟩ := q st hm
  cases h5.symm.trans e1
  rw [h6] at e2; cases e2
theorem es6 (X : Stand p l e R s m args below meth c T locs cells slots) (hx : p.tables.exec = Jvm.exec) {pc : Nat} {Ls : Array Slot} {rest : List Value} {x : Int64} (hd : decode c.code pc = .ok (.pop2, 1)) (k : aa0 p e below P (T.setTop (mkF m (pc + 1) Ls rest))) : aa0 p e below P (T.setTop (mkF m pc Ls (.long x :: rest))) :=
  an1 (fun _ r => by
    show Steps p.tables e below (T.setTop { method := m, pc := pc, locals := Ls, stack := .long x :: rest, locked := none }) _
    jvm_step X.here [X.here.top, hx, hd, Value.category]
    exact r) k
theorem ee4 {y z : MethodName} (hz : z.cls = y.cls) (hy : y.cls ≠ "java/lang/invoke/MethodHandle" ∧ y.cls ≠ "java/lang/invoke/VarHandle") (w5 : (Jvm.Cond.selects y.cls z z).before args s = true) (wi : (Jvm.Cond.instanceMethod y).before args s = true) (hp : s.PrivateAt y) : (Jvm.Cond.selects y.cls y y).before args s = true := by
  obtain ⟨mk, mm, hn, hm, -, -⟩ := Cond.instanceMethod_spec wi
  obtain ⟨c2, r2, m2, -, -, q3, -, kP, hk, hi⟩ := Cond.selects_spec w5
  have a1 := findClass_of_methodNamed hn
  have a2 := findClass_of_methodNamed q3
  rw [hz] at a2
  have e : m2.cls = mk.cls := Option.some.inj (a2.symm.trans a1)
  rw [e] at hk
  have hs : selectMethod {} s.vm mk.cls mk = .method mk := selectMethod_private hm (hp mk mm hn hm)
  have hf := State.methodFound?_of_named hn hy
  simp [Cond.before, Cond.holds, Cond.value, a1, hf, hn, hs, hk, hi]
theorem et6 (X : Stand p l e R s m args below meth c T locs cells slots) (hx : p.tables.exec = Jvm.exec) (hZ : Z.Warmed39 s.vm) {own : String} {index : Nat} {y z : MethodName} {bytes : ByteArray} {maxL : Nat} {rt : Option FieldType} {rm : Room} {as' : Array Value} {Q : Option Value → Heap → List Loc → Prop}
    (hown : s.vm.findClass own = some m.cls) (w1 : (Jvm.Cond.methodLink own index y).before a0 Z = true) (w2 : (Jvm.Cond.instanceMethod y).before a0 Z = true) (hz : z.cls = y.cls) (w5 : (Jvm.Cond.selects y.cls z z).before a0 Z = true) (w6 : (Jvm.Cond.privateMethod y).before a0 Z = true) (w3 : (Jvm.Cond.initialized y.cls).before a0 Z = true) (w4 : (Jvm.Cond.code y bytes maxL rt).before a0 Z = true) (hy : y.cls ≠ "java/lang/invoke/MethodHandle" ∧ y.cls ≠ "java/lang/invoke/VarHandle")
    {C : String} {a : Addr} (E : Exa Z h a C) (hM : ab3 l Z y bytes maxL rt [] rm as' h Q) (W : Nat) (hf : rm.frames + 1 ≤ R.frames) (hl : W + (maxL + 11) + rm.locals ≤ R.locals) (eT : T.heap = h) (hc : cells + rm.cells ≤ R.cells) (hs : slots + rm.slots ≤ R.slots)
    {g : JFrame} (hg : g.method = m) (hsize : g.locals.size = c.maxLocals) {argsL rest : List Value} (ha : (Value.ref a :: argsL).toArray = as') (hlen : ∀ sig, parseMethodDescriptor y.desc = some sig → argsL.length = sig.parameters.length) (hstack : g.stack = argsL.reverse ++ .ref a :: rest) (hW : 2 * g.monitorRoom + (rest.map fun v => v.category).sum ≤ W) (hdg : decode c.code g.pc = .ok (.invokevirtual index, 3))
    (k : ∀ v T' L, Stand p l e R s m args below meth c T' (locs ++ L) (cells + rm.cells) (slots + rm.slots) → Q v T'.heap L → aa0 p e below P (T'.setTop { g with pc := g.pc + 3, stack := v.toList ++ rest })) : aa0 p e below P (T.setTop g) := by
  obtain ⟨cq, q1, q2⟩ := E.cell
  have hp : s.PrivateAt y := Cond.privateMethod_at (mvP hZ w6 (args := args))
  obtain ⟨v, vm₁, ⟨T', L', k', n'⟩, -, X', ⟨L, hQ, h1, h2, h3⟩, st⟩ := X.privateBack hx (y := y) hown (mvT hZ w1) (mvT hZ w2) (ee4 hz hy (mvT hZ w5) (mvT hZ w2) hp) hp (mvT hZ w4) hy (backOf (W := W) hM hZ w4 w3 hf hl) hg hsize (Steps.refl _) (a := a) (by rw [eT]; exact q1) q2 hlen hstack hW hdg (fun _ _ => ⟨ha, eT, hc, hs⟩)
  dsimp only [Pt.U, Pt.locs, Pt.cells, Pt.slots] at X' h1 h2 h3 st hQ
  subst h1 h2 h3
  exact cp3 st (k v T' L X' hQ)
theorem eq7 (X : Stand p l e R s m args below meth c T locs cells slots) (hx : p.tables.exec = Jvm.exec) {pc len pc' : Nat} {Ls : Array Slot} {rest : List Value} {dflt low high o : Int} {offs : Array Int} {i : Int32} (hd : decode c.code pc = .ok (.tableswitch dflt low high offs, len)) (hin : ¬ (i.toInt < low ∨ i.toInt > high)) (hoff : offs[(i.toInt - low).toNat]? = some o) (ho : 0 ≤ (pc : Int) + o) (hp : ((pc : Int) + o).toNat = pc')
    (k : aa0 p e below P (T.setTop (mkF m pc' Ls rest))) : aa0 p e below P (T.setTop (mkF m pc Ls (.int i :: rest))) :=
  an1 (fun _ r => XS.tswIn (g := mkF m pc Ls (.int i :: rest)) X.here hx rfl rfl hd rfl hin hoff ho hp r) k
theorem er7 {x y : Int64} : lcmpW x y < 0 ↔ x < y := by rw [lcW]; exact lc_lt x y
theorem es7 {x y : Int64} : 0 < lcmpW x y ↔ y < x := by rw [lcW]; exact lc_gt x y
theorem et7 {x y : Int64} : lcmpW x y = 0 ↔ x = y := by rw [lcW]; exact lc_eq x y
theorem eu6 {first : State} {o : Option Outcome} {idx : List Nat} {t : Term} {k : Int32} (q : (Jvm.Cond.eq t (.int k)).value args first o s idx = some true) : t.eval args first o idx s = some (.int k) := by
  obtain ⟨x, y, e1, e2, k1, k2⟩ := cmp_v (Or.inl q)
  rw [Term.int_eval] at e2
  cases e2
  obtain ⟨z, rfl⟩ := k2
  rw [e1, gotT (Cond.eq_ints e1 (Term.int_eval k)) q]
end Own
/-- an int[] at a that holds xs -/
def ah1 (Z : State) (h : Heap) (a : Addr) (xs : List Int32) : Prop :=
  ∃ k z, Arv Z h a k .int z (xs.map Value.int) (.int 0) ∧ z.toNatClampNeg = xs.length ∧ Exa Z h a "[I"
section OwnA
variable {p : Program} {l : Launch} {e : Env} {R : Room} {s : State} {m : MethodId} {args : Array Value} {below : List Frame} {meth : Method} {c : Code} {T : State} {locs : List Loc} {cells slots : Nat} {Z : State} {a0 : Array Value} {h h' : Heap} {P : Outcome → State → Prop} {a b : Addr} {xs ys : List Int32}
theorem ah1.lt (F : ah1 Z h a xs) : a < h.size := by obtain ⟨k, z, A, -⟩ := F; exact A.lt
theorem ah1.ext (F : ah1 Z h a xs) (E : Ext h h') : ah1 Z h' a xs := by obtain ⟨k, z, A, q, X⟩ := F; exact ⟨k, z, A.ext E, q, X.ext E⟩
theorem ah1.other {sl : Nat} {v : Value} (F : ah1 Z h a xs) (W : Wr h h' b sl v) (ne : a ≠ b) : ah1 Z h' a xs := by obtain ⟨k, z, A, q, X⟩ := F; exact ⟨k, z, A.other W ne, q, X.wr W⟩
theorem ah1.keep {ws : List Addr} (F : ah1 Z h a xs) (K : Keep h h' ws) (q : a ∉ ws) : ah1 Z h' a xs := by obtain ⟨k, z, A, r, X⟩ := F; exact ⟨k, z, A.keep K q, r, X.keep K⟩
theorem ah1.len (F : ah1 Z h a xs) : xs.length < 2 ^ 31 := by obtain ⟨k, z, ⟨cl, -, -, -, q, -⟩, r, -⟩ := F; rw [← r]; exact (back32 q).2
theorem ah1.ins (F : ah1 Z h a xs) : Ins Z h a "[I" true := by obtain ⟨k, z, A, r, X⟩ := F; exact Ins.self X
theorem bk0 {j : Int32} {i : Nat} (hj : j.toInt = (i : Int)) : ¬ j < 0 ∧ j.toNatClampNeg = i := by
  refine ⟨fun q => by rw [Int32.lt_iff_toInt_lt] at q; rw [hj] at q; have : (0 : Int32).toInt = 0 := by decide
                      omega, ?_⟩
  show j.toInt.toNat = i
  rw [hj]; rfl
theorem ew1 (X : Stand p l e R s m args below meth c T locs cells slots) (hx : p.tables.exec = Jvm.exec) (hZ : Z.Warmed39 s.vm) (eT : T.heap = h) (F : ah1 Z h a xs) {g : JFrame} (hg : g.method = m) {rest : List Value} (hs : g.stack = .ref a :: rest) (hd : decode c.code g.pc = .ok (.arraylength, 1))
    (k : aa0 p e below P (T.setTop { g with pc := g.pc + 1, stack := .int (Int32.ofNat xs.length) :: rest })) : aa0 p e below P (T.setTop g) := by
  obtain ⟨k', z, ⟨cl, Ar, q1, S, N, H, G⟩, r, -⟩ := F
  refine an1 (fun _ => X.arraylength hx (by rw [eT]; exact Ar.1) (State.isArrayOf_alike hZ.alike Ar.2.1) hg hs hd _) ?_
  rw [S, r]; exact k
theorem dc5 (X : Stand p l e R s m args below meth c T locs cells slots) (hx : p.tables.exec = Jvm.exec) (hZ : Z.Warmed39 s.vm) (eT : T.heap = h) (F : ah1 Z h a xs) {j v : Int32} {i : Nat} (hj : j.toInt = (i : Int)) (hv : xs[i]? = some v) {g : JFrame} (hg : g.method = m) {rest : List Value} (hs : g.stack = .int j :: .ref a :: rest) (hd : decode c.code g.pc = .ok (.iaload, 1))
    (k : aa0 p e below P (T.setTop { g with pc := g.pc + 1, stack := .int v :: rest })) : aa0 p e below P (T.setTop g) := by
  obtain ⟨k', z, ⟨cl, Ar, q1, S, N, H, G⟩, r, -⟩ := F
  obtain ⟨hn, hi⟩ := bk0 hj
  have hl : i < xs.length := (List.getElem?_eq_some_iff.mp hv).1
  have hin : ¬ (j < 0 ∨ cl.slots.size ≤ j.toNatClampNeg) := fun q => q.elim hn (fun y => by rw [S, r, hi] at y; omega)
  refine an1 (fun _ => X.iaload hx (by rw [eT]; exact Ar.1) (State.isArrayOf_alike hZ.alike Ar.2.1) Ar.2.2 hin (H.at hin (v := .int v) (by rw [hi]; simp [hv])) hg hs hd _) ?_
  exact k
theorem dn1 (X : Stand p l e R s m args below meth c T locs cells slots) (hx : p.tables.exec = Jvm.exec) (hZ : Z.Warmed39 s.vm) (eT : T.heap = h) (F : ah1 Z h a xs) {j v : Int32} {i : Nat} (hj : j.toInt = (i : Int)) (hl : i < xs.length) {g : JFrame} (hg : g.method = m) {rest : List Value} (hs : g.stack = .int v :: .int j :: .ref a :: rest) (hd : decode c.code g.pc = .ok (.iastore, 1))
    (k : ∀ T' h', Stand p l e R s m args below meth c T' (locs ++ [⟨a, j.toNatClampNeg⟩]) cells slots → T'.heap = h' → Wr h h' a j.toNatClampNeg (.int v) → ah1 Z h' a (xs.set i v) → aa0 p e below P (T'.setTop { g with pc := g.pc + 1, stack := rest })) : aa0 p e below P (T.setTop g) := by
  obtain ⟨k', z, ⟨cl, Ar, q1, S, N, H, G⟩, r, E⟩ := F
  obtain ⟨hn, hi⟩ := bk0 hj
  have hin : ¬ (j < 0 ∨ cl.slots.size ≤ j.toNatClampNeg) := fun q => q.elim hn (fun y => by rw [S, r, hi] at y; omega)
  obtain ⟨T', h', X', e', W, st⟩ := stI X hx hZ eT Ar (j := j) hin hg hs hd
  refine an1 st (k T' h' X' e' W ⟨k', z, ?_, by rw [List.length_set]; exact r, E.wr W⟩)
  have := Arv.set Ar q1 S N H G rfl W i hi (by rw [List.length_map]; exact hl)
  rwa [← List.map_set] at this
theorem ex1 (X : Stand p l e R s m args below meth c T locs cells slots) (hx : p.tables.exec = Jvm.exec) (hZ : Z.Warmed39 s.vm) (w : (Jvm.Cond.arrayClass .int).before a0 Z = true) (eT : T.heap = h) {j : Int32} {n : Nat} (hj : j.toInt = (n : Int)) (cap : Nat) (hcap : n ≤ cap) (hb : cap * 8 ≤ 536870912) (hc : cells + 1 ≤ R.cells) (hl : slots + cap ≤ R.slots) {g : JFrame} (hg : g.method = m) {rest : List Value} (hs : g.stack = .int j :: rest) (hd : decode c.code g.pc = .ok (.newarray .int, 2))
    (k : ∀ T' h', Stand p l e R s m args below meth c T' locs (cells + 1) (slots + cap) → T'.heap = h' → Ext h h' → ah1 Z h' h.size (List.replicate n 0) → aa0 p e below P (T'.setTop { g with pc := g.pc + 2, stack := .ref h.size :: rest })) : aa0 p e below P (T.setTop g) := by
  obtain ⟨hn, hi⟩ := bk0 hj
  obtain ⟨T', h', cA, X', e', E, A, Ex, st⟩ := newPE X hx hZ (aty := .int) w eT hg hd hs hn (cap := cap) (by rw [hi]; exact hcap) hb hc hl (ad := "[I") (by decide)
  refine an1 st (k T' h' X' e' E ⟨cA, j, ?_, by rw [hi, List.length_replicate], Ex⟩)
  have := (Arv.new A hn).pad (vs' := (List.replicate n (0 : Int32)).map Value.int) (fun i => by simp [List.getD_eq_getElem?_getD, List.getElem?_replicate, newarray.typeOf, defaultValue]; split <;> rfl)
  exact this
theorem db8 (xs : List Int32) (sp n : Nat) (h4 : sp + n ≤ xs.length) : (List.range n).map (fun i => (xs.map Value.int).getD (sp + i) (.int 0)) = ((xs.drop sp).take n).map Value.int := by
  apply List.ext_getElem?
  intro i
  by_cases hi : i < n
  · have h5 : sp + i < xs.length := by omega
    simp [List.getElem?_map, List.getElem?_range hi, List.getElem?_take, hi, List.getElem?_drop, List.getD_eq_getElem?_getD, List.getElem?_eq_getElem h5]
  · rw [List.getElem?_eq_none (by simp; omega), List.getElem?_eq_none (by simp; omega)]
theorem ek7 (X : Stand p l e R s m args below meth c T locs cells slots) (hx : p.tables.exec = Jvm.exec) (hZ : Z.Warmed39 s.vm) {own : String} {index : Nat} (hown : s.vm.findClass own = some m.cls)
    (w1 : (Jvm.Cond.methodLink own index Jvm.Stand.acN).before a0 Z = true) (w2 : (Jvm.Cond.native Jvm.Stand.acN).before a0 Z = true) (w3 : (Jvm.Cond.static Jvm.Stand.acN).before a0 Z = true) (w4 : (Jvm.Cond.initialized "java/lang/System").before a0 Z = true) (eT : T.heap = h)
    (A : ah1 Z h a xs) (B : ah1 Z h b ys) {sj dj nj : Int32} {sp dp n : Nat} (h1 : sj.toInt = (sp : Int)) (h2 : dj.toInt = (dp : Int)) (h3 : nj.toInt = (n : Int)) (h4 : sp + n ≤ xs.length) (h5 : dp + n ≤ ys.length) {n0 : Nat} (N : Fr n0 locs) (ge : n0 ≤ b)
    {g : JFrame} (hg : g.method = m) (hsize : g.locals.size = c.maxLocals) {rest : List Value} (hs : g.stack = .int nj :: .int dj :: .ref b :: .int sj :: .ref a :: rest) (hd : decode c.code g.pc = .ok (.invokestatic index, 3))
    (hf : 1 ≤ R.frames) (W : Nat) (hW : 2 * g.monitorRoom + (rest.map fun v => v.category).sum ≤ W) (hlo : W + (nativeFrameWords "java/lang/System" "arraycopy" 5 + 11) ≤ R.locals)
    (k : ∀ T' h' L, Stand p l e R s m args below meth c T' L cells slots → T'.heap = h' → Fr n0 L → Keep h h' [b] → ah1 Z h' b (ys.take dp ++ (xs.drop sp).take n ++ ys.drop (dp + n)) → aa0 p e below P (T'.setTop { g with pc := g.pc + 3, stack := rest })) : aa0 p e below P (T.setTop g) := by
  obtain ⟨ka, za, Aa, ra, Ea⟩ := A
  obtain ⟨kb, zb, Ab, rb, Eb⟩ := B
  obtain ⟨n1, e1⟩ := bk0 h1
  obtain ⟨n2, e2⟩ := bk0 h2
  obtain ⟨n3, e3⟩ := bk0 h3
  obtain ⟨T', h', L, X', e', N', K, F, st⟩ := cpA X hx hZ hown w1 w2 w3 w4 eT Aa Ab (Or.inl ⟨rfl, rfl⟩) n1 n2 n3 (by rw [e1, e3, ra]; exact h4) (by rw [e2, e3, rb]; exact h5) (us := ((xs.drop sp).take n).map Value.int) (by rw [e3, e1]; exact (db8 xs sp n h4).symm) (by rw [e2, e3, List.length_map]; exact h5) N ge hg hsize hs hd hf hW hlo
  refine an1 st (k T' h' L X' e' N' K ⟨kb, zb, ?_, ?_, Eb.keep K⟩)
  · rw [e2, e3, ← List.map_take, ← List.map_drop, ← List.map_append, ← List.map_append] at F
    exact F
  · rw [rb]; simp; omega
theorem ev6 (X : Stand p l e R s m args below meth c T locs cells slots) (hx : p.tables.exec = Jvm.exec) (hZ : Z.Warmed39 s.vm) {own : String} {index : Nat} (hown : s.vm.findClass own = some m.cls)
    (w1 : (Jvm.Cond.methodLink own index ⟨"[I", "clone", "()Ljava/lang/Object;"⟩).before a0 Z = true) (w2 : (Jvm.Cond.sameMethod "[I" "java/lang/Object" "clone" "()Ljava/lang/Object;").before a0 Z = true) (w3 : (Jvm.Cond.native ⟨"java/lang/Object", "clone", "()Ljava/lang/Object;"⟩).before a0 Z = true)
    (w4 : (Jvm.Cond.instanceMethod ⟨"java/lang/Object", "clone", "()Ljava/lang/Object;"⟩).before a0 Z = true) (w5 : (Jvm.Cond.selects "[I" ⟨"[I", "clone", "()Ljava/lang/Object;"⟩ ⟨"java/lang/Object", "clone", "()Ljava/lang/Object;"⟩).before a0 Z = true) (w6 : (Jvm.Cond.castable "[I" "java/lang/Cloneable").before a0 Z = true)
    (eT : T.heap = h) (A : ah1 Z h a xs) {g : JFrame} (hg : g.method = m) (hsize : g.locals.size = c.maxLocals) {rest : List Value} (hst : g.stack = .ref a :: rest) (hd : decode c.code g.pc = .ok (.invokevirtual index, 3))
    (hf : 1 ≤ R.frames) (W cap : Nat) (hW : 2 * g.monitorRoom + (rest.map fun v => v.category).sum ≤ W) (hl : W + 14 ≤ R.locals) (hcap : xs.length ≤ cap) (hc : cells + 1 ≤ R.cells) (hsl : slots + cap ≤ R.slots)
    (k : ∀ T' h', Stand p l e R s m args below meth c T' locs (cells + 1) (slots + cap) → T'.heap = h' → Ext h h' → ah1 Z h' h.size xs → aa0 p e below P (T'.setTop { g with pc := g.pc + 3, stack := .ref h.size :: rest })) : aa0 p e below P (T.setTop g) := by
  obtain ⟨ka, za, Aa, ra, Ea⟩ := A
  obtain ⟨T', h', X', e', E, F, Ex, st⟩ := cloneH X hx hZ hown w1 w2 w3 w4 w5 w6 eT Aa.arh Ea hg hsize hst hd hf hW hl (cap := cap) (by rw [ra]; exact hcap) hc hsl
  exact an1 st (k T' h' X' e' E ⟨ka, za, F, ra, Ex⟩)
end OwnA
theorem cb7 {Z : State} {h : Heap} {a : Addr} {k : ClassId} {ty : FieldType} {z : Int32} {vs : List Value} {dv : Value} (A : Arv Z h a k ty z vs dv) : ∃ c : Cell, h[a]? = some c ∧ c.vm.isStatics = false := by
  obtain ⟨c, ⟨h1, ⟨h2, -⟩, -⟩, -⟩ := A
  refine ⟨c, h1, ?_⟩
  cases q : c.vm <;> first | rfl | exact absurd q (h2 _)
theorem bs1 {Z : State} {h : Heap} {a : Addr} {xs : List Int32} (F : ah1 Z h a xs) : ∃ c : Cell, h[a]? = some c ∧ c.vm.isStatics = false := by obtain ⟨k, z, A, -⟩ := F; exact cb7 A
/-- a byte[] at a that holds xs -/
def ax2 (Z : State) (h : Heap) (a : Addr) (xs : List Int32) : Prop :=
  ∃ k z, Arv Z h a k .byte z (xs.map Value.int) (.int 0) ∧ z.toNatClampNeg = xs.length ∧ (xs = [] ∨ Exa Z h a "[B")
section OwnB
variable {p : Program} {l : Launch} {e : Env} {R : Room} {s : State} {m : MethodId} {args : Array Value} {below : List Frame} {meth : Method} {c : Code} {T : State} {locs : List Loc} {cells slots : Nat} {Z : State} {a0 : Array Value} {h h' : Heap} {P : Outcome → State → Prop} {a b : Addr} {xs ys : List Int32}
theorem ax2.lt (F : ax2 Z h a xs) : a < h.size := by obtain ⟨k, z, A, -⟩ := F; exact A.lt
theorem ax2.ext (F : ax2 Z h a xs) (E : Ext h h') : ax2 Z h' a xs := by obtain ⟨k, z, A, q, X⟩ := F; exact ⟨k, z, A.ext E, q, X.imp id (·.ext E)⟩
theorem ax2.other {sl : Nat} {v : Value} (F : ax2 Z h a xs) (W : Wr h h' b sl v) (ne : a ≠ b) : ax2 Z h' a xs := by obtain ⟨k, z, A, q, X⟩ := F; exact ⟨k, z, A.other W ne, q, X.imp id (·.wr W)⟩
theorem ax2.keep {ws : List Addr} (F : ax2 Z h a xs) (K : Keep h h' ws) (q : a ∉ ws) : ax2 Z h' a xs := by obtain ⟨k, z, A, r, X⟩ := F; exact ⟨k, z, A.keep K q, r, X.imp id (·.keep K)⟩
theorem ax2.len (F : ax2 Z h a xs) : xs.length < 2 ^ 31 := by obtain ⟨k, z, ⟨cl, -, -, -, q, -⟩, r, -⟩ := F; rw [← r]; exact (back32 q).2
theorem ax2.ins (F : ax2 Z h a xs) (n : xs ≠ []) : Ins Z h a "[B" true := by obtain ⟨k, z, A, r, X⟩ := F; exact Ins.self (X.resolve_left n)
theorem dc8 (X : Stand p l e R s m args below meth c T locs cells slots) (hx : p.tables.exec = Jvm.exec) (hZ : Z.Warmed39 s.vm) (eT : T.heap = h) (F : ax2 Z h a xs) {g : JFrame} (hg : g.method = m) {rest : List Value} (hs : g.stack = .ref a :: rest) (hd : decode c.code g.pc = .ok (.arraylength, 1))
    (k : aa0 p e below P (T.setTop { g with pc := g.pc + 1, stack := .int (Int32.ofNat xs.length) :: rest })) : aa0 p e below P (T.setTop g) := by
  obtain ⟨k', z, ⟨cl, Ar, q1, S, N, H, G⟩, r, -⟩ := F
  refine an1 (fun _ => X.arraylength hx (by rw [eT]; exact Ar.1) (State.isArrayOf_alike hZ.alike Ar.2.1) hg hs hd _) ?_
  rw [S, r]; exact k
theorem dd5 (X : Stand p l e R s m args below meth c T locs cells slots) (hx : p.tables.exec = Jvm.exec) (hZ : Z.Warmed39 s.vm) (eT : T.heap = h) (F : ax2 Z h a xs) {j : Int32} {v : Int32} {i : Nat} (hj : j.toInt = (i : Int)) (hv : xs[i]? = some v) {g : JFrame} (hg : g.method = m) {rest : List Value} (hs : g.stack = .int j :: .ref a :: rest) (hd : decode c.code g.pc = .ok (.baload, 1))
    (k : aa0 p e below P (T.setTop { g with pc := g.pc + 1, stack := .int v :: rest })) : aa0 p e below P (T.setTop g) := by
  obtain ⟨k', z, ⟨cl, Ar, q1, S, N, H, G⟩, r, -⟩ := F
  obtain ⟨hn, hi⟩ := bk0 hj
  have hl : i < xs.length := (List.getElem?_eq_some_iff.mp hv).1
  have hin : ¬ (j < 0 ∨ cl.slots.size ≤ j.toNatClampNeg) := fun q => q.elim hn (fun y => by rw [S, r, hi] at y; omega)
  refine an1 (fun _ => X.baloadBytes hx (by rw [eT]; exact Ar.1) (State.isArrayOf_alike hZ.alike Ar.2.1) Ar.2.2 hin (H.at hin (v := .int v) (by rw [hi]; simp [hv])) hg hs hd _) ?_
  exact k
theorem do1 (X : Stand p l e R s m args below meth c T locs cells slots) (hx : p.tables.exec = Jvm.exec) (hZ : Z.Warmed39 s.vm) (eT : T.heap = h) (F : ax2 Z h a xs) {j : Int32} {v : Int32} {i : Nat} (hj : j.toInt = (i : Int)) (hl : i < xs.length) {g : JFrame} (hg : g.method = m) {rest : List Value} (hs : g.stack = .int v :: .int j :: .ref a :: rest) (hd : decode c.code g.pc = .ok (.bastore, 1))
    (k : ∀ T' h', Stand p l e R s m args below meth c T' (locs ++ [⟨a, j.toNatClampNeg⟩]) cells slots → T'.heap = h' → Wr h h' a j.toNatClampNeg (.int (nar .byte v)) → ax2 Z h' a (xs.set i (nar .byte v)) → aa0 p e below P (T'.setTop { g with pc := g.pc + 1, stack := rest })) : aa0 p e below P (T.setTop g) := by
  obtain ⟨k', z, ⟨cl, Ar, q1, S, N, H, G⟩, r, E⟩ := F
  obtain ⟨hn, hi⟩ := bk0 hj
  have hin : ¬ (j < 0 ∨ cl.slots.size ≤ j.toNatClampNeg) := fun q => q.elim hn (fun y => by rw [S, r, hi] at y; omega)
  obtain ⟨T', h', X', e', W, st⟩ := stB X hx hZ eT Ar (j := j) hin hg hs hd
  refine an1 st (k T' h' X' e' W ⟨k', z, ?_, by rw [List.length_set]; exact r, E.imp (fun q => by rw [q]; rfl) (·.wr W)⟩)
  have := Arv.set Ar q1 S N H G (fits_nar_byte _) W i hi (by rw [List.length_map]; exact hl)
  rwa [← List.map_set] at this
theorem ey1 (X : Stand p l e R s m args below meth c T locs cells slots) (hx : p.tables.exec = Jvm.exec) (hZ : Z.Warmed39 s.vm) (w : (Jvm.Cond.arrayClass .byte).before a0 Z = true) (eT : T.heap = h) {j : Int32} {n : Nat} (hj : j.toInt = (n : Int)) (cap : Nat) (hcap : n ≤ cap) (hb : cap * 8 ≤ 536870912) (hc : cells + 1 ≤ R.cells) (hl : slots + cap ≤ R.slots) {g : JFrame} (hg : g.method = m) {rest : List Value} (hs : g.stack = .int j :: rest) (hd : decode c.code g.pc = .ok (.newarray .byte, 2))
    (k : ∀ T' h', Stand p l e R s m args below meth c T' locs (cells + 1) (slots + cap) → T'.heap = h' → Ext h h' → ax2 Z h' h.size (List.replicate n 0) → aa0 p e below P (T'.setTop { g with pc := g.pc + 2, stack := .ref h.size :: rest })) : aa0 p e below P (T.setTop g) := by
  obtain ⟨hn, hi⟩ := bk0 hj
  obtain ⟨T', h', cA, X', e', E, A, Ex, st⟩ := newPE X hx hZ (aty := .byte) w eT hg hd hs hn (cap := cap) (by rw [hi]; exact hcap) hb hc hl (ad := "[B") (by decide)
  refine an1 st (k T' h' X' e' E ⟨cA, j, ?_, by rw [hi, List.length_replicate], Or.inr Ex⟩)
  have := (Arv.new A hn).pad (vs' := (List.replicate n (0 : Int32)).map Value.int) (fun i => by simp [List.getD_eq_getElem?_getD, List.getElem?_replicate, newarray.typeOf, defaultValue]; split <;> rfl)
  exact this
end OwnB
section OwnLS
variable {p : Program} {l : Launch} {e : Env} {R : Room} {s : State} {m : MethodId} {args : Array Value} {below : List Frame} {meth : Method} {c : Code} {T : State} {locs : List Loc} {cells slots : Nat} {Z : State} {a0 : Array Value} {P : Outcome → State → Prop}
theorem ez1 (X : Stand p l e R s m args below meth c T locs cells slots) (hx : p.tables.exec = Jvm.exec) {pc len pc' : Nat} {Ls : Array Slot} {rest : List Value} {dflt a off : Int} {pairs : Array (Int × Int)} {k : Int32} (hd : decode c.code pc = .ok (.lookupswitch dflt pairs, len)) (hs : (pairs.toList.zip (pairs.toList.drop 1)).all (fun (a, next) => a.1 < next.1) = true) (hf : pairs.find? (·.1 == k.toInt) = some (a, off)) (ho : 0 ≤ (pc : Int) + off) (hp : ((pc : Int) + off).toNat = pc')
    (r : aa0 p e below P (T.setTop (mkF m pc' Ls rest))) : aa0 p e below P (T.setTop (mkF m pc Ls (.int k :: rest))) := by
  subst hp
  exact an1 (fun tg q => X.lookupswitchHit hx (g := mkF m pc Ls (.int k :: rest)) rfl rfl hd hs hf ho tg q) r
theorem el7 (X : Stand p l e R s m args below meth c T locs cells slots) (hx : p.tables.exec = Jvm.exec) {pc len pc' : Nat} {Ls : Array Slot} {rest : List Value} {dflt : Int} {pairs : Array (Int × Int)} {k : Int32} (hd : decode c.code pc = .ok (.lookupswitch dflt pairs, len)) (hs : (pairs.toList.zip (pairs.toList.drop 1)).all (fun (a, next) => a.1 < next.1) = true) (hf : pairs.find? (·.1 == k.toInt) = none) (ho : 0 ≤ (pc : Int) + dflt) (hp : ((pc : Int) + dflt).toNat = pc')
    (r : aa0 p e below P (T.setTop (mkF m pc' Ls rest))) : aa0 p e below P (T.setTop (mkF m pc Ls (.int k :: rest))) := by
  subst hp
  exact an1 (fun tg q => X.lookupswitchMiss hx (g := mkF m pc Ls (.int k :: rest)) rfl rfl hd hs hf ho tg q) r
/-- a class right under Object isn't of an instantiable class of another name -/
theorem ej5 {C O K : String} {n : Nat} (w : (Jvm.Cond.superclass C O).before a0 Z = true) (wo : (Jvm.Cond.noSuperclass O).before a0 Z = true) (wk : (Jvm.Cond.instantiable K n).before a0 Z = true) (h1 : O ≠ K) (h2 : C ≠ K) : ∃ c t, Z.vm.findClass C = some c ∧ Z.vm.findClass K = some t ∧ Z.vm.assignable c t = false := by
  obtain ⟨o, ko, o1, o2, o3, -, -⟩ := Cond.noSuperclass_spec wo
  obtain ⟨t, kt, g1, g2, g5, g6, -⟩ := Cond.instantiable_spec wk
  obtain ⟨c', h0⟩ := found_sup w
  obtain ⟨p', k, kp, q1, q2, q3, q4, q5, -, q7⟩ := Cond.superclass_spec h0 w
  cases o1.symm.trans q1
  have n1 := ids_ne o1 g1 h1
  have n2 := ids_ne h0 g1 h2
  have g7 : kt.isInterface = false := by cases h : kt.isInterface <;> simp_all
  have no : ∀ fuel, Z.vm.isSubclassAux fuel o t = false := fun fuel => by
    cases fuel with
    | zero => rfl
    | succ f => simp [Vm.isSubclassAux, n1, o2, o3]
  refine ⟨c', t, h0, g1, ?_⟩
  show Z.vm.assignableAux (255 + 1) c' t = false
  simp [Vm.assignableAux, n2, q2, g2, q5, g5, g7, Vm.isSubclass, Vm.isSubclassAux, q4, no]
end OwnLS
section OwnDX
variable {p : Program} {l : Launch} {e : Env} {R : Room} {s : State} {m : MethodId} {args : Array Value} {below : List Frame} {meth : Method} {c : Code} {T : State} {locs : List Loc} {cells slots : Nat} {P : Outcome → State → Prop}
theorem cz2 (X : Stand p l e R s m args below meth c T locs cells slots) (hx : p.tables.exec = Jvm.exec) {pc : Nat} {Ls : Array Slot} {rest : List Value} {x y : Int32} {a : Addr} (hd : decode c.code pc = .ok (.dup_x2, 1)) (k : aa0 p e below P (T.setTop (mkF m (pc + 1) Ls (.int x :: .int y :: .ref a :: .int x :: rest)))) : aa0 p e below P (T.setTop (mkF m pc Ls (.int x :: .int y :: .ref a :: rest))) :=
  an1 (fun _ r => by
    show Steps p.tables e below (T.setTop { method := m, pc := pc, locals := Ls, stack := .int x :: .int y :: .ref a :: rest, locked := none }) _
    jvm_step X.here [X.here.top, hx, hd, Value.category]
    exact r) k
end OwnDX
/-- an array over the class C at a that holds xs -/
def ac2 (C : String) (Z : State) (h : Heap) (a : Addr) (xs : List Value) : Prop :=
  ∃ k z, Arv Z h a k (.object C) z xs .null ∧ z.toNatClampNeg = xs.length ∧ Ovr Z k C
section OwnR
variable {p : Program} {l : Launch} {e : Env} {R : Room} {s : State} {m : MethodId} {args : Array Value} {below : List Frame} {meth : Method} {c : Code} {T : State} {locs : List Loc} {cells slots : Nat} {Z : State} {a0 : Array Value} {h h' : Heap} {P : Outcome → State → Prop} {a b : Addr} {xs ys : List Value} {C : String}
theorem ac2.lt (F : ac2 C Z h a xs) : a < h.size := by obtain ⟨k, z, A, -⟩ := F; exact A.lt
theorem ac2.ext (F : ac2 C Z h a xs) (E : Ext h h') : ac2 C Z h' a xs := by obtain ⟨k, z, A, q, X⟩ := F; exact ⟨k, z, A.ext E, q, X⟩
theorem ac2.other {sl : Nat} {v : Value} (F : ac2 C Z h a xs) (W : Wr h h' b sl v) (ne : a ≠ b) : ac2 C Z h' a xs := by obtain ⟨k, z, A, q, X⟩ := F; exact ⟨k, z, A.other W ne, q, X⟩
theorem ac2.keep {ws : List Addr} (F : ac2 C Z h a xs) (K : Keep h h' ws) (q : a ∉ ws) : ac2 C Z h' a xs := by obtain ⟨k, z, A, r, X⟩ := F; exact ⟨k, z, A.keep K q, r, X⟩
theorem dd8 (X : Stand p l e R s m args below meth c T locs cells slots) (hx : p.tables.exec = Jvm.exec) (hZ : Z.Warmed39 s.vm) (eT : T.heap = h) (F : ac2 C Z h a xs) {g : JFrame} (hg : g.method = m) {rest : List Value} (hs : g.stack = .ref a :: rest) (hd : decode c.code g.pc = .ok (.arraylength, 1))
    (k : aa0 p e below P (T.setTop { g with pc := g.pc + 1, stack := .int (Int32.ofNat xs.length) :: rest })) : aa0 p e below P (T.setTop g) := by
  obtain ⟨k', z, ⟨cl, Ar, q1, S, N, H, G⟩, r, -⟩ := F
  refine an1 (fun _ => X.arraylength hx (by rw [eT]; exact Ar.1) (State.isArrayOf_alike hZ.alike Ar.2.1) hg hs hd _) ?_
  rw [S, r]; exact k
theorem de5 (X : Stand p l e R s m args below meth c T locs cells slots) (hx : p.tables.exec = Jvm.exec) (hZ : Z.Warmed39 s.vm) (eT : T.heap = h) (F : ac2 C Z h a xs) {j : Int32} {v : Value} {i : Nat} (hj : j.toInt = (i : Int)) (hv : xs[i]? = some v) {g : JFrame} (hg : g.method = m) {rest : List Value} (hs : g.stack = .int j :: .ref a :: rest) (hd : decode c.code g.pc = .ok (.aaload, 1))
    (k : aa0 p e below P (T.setTop { g with pc := g.pc + 1, stack := v :: rest })) : aa0 p e below P (T.setTop g) := by
  obtain ⟨k', z, ⟨cl, Ar, q1, S, N, H, G⟩, r, -⟩ := F
  obtain ⟨hn, hi⟩ := bk0 hj
  have hl : i < xs.length := (List.getElem?_eq_some_iff.mp hv).1
  have hin : ¬ (j < 0 ∨ cl.slots.size ≤ j.toNatClampNeg) := fun q => q.elim hn (fun y => by rw [S, r, hi] at y; omega)
  refine an1 (fun _ => X.aaload hx (by rw [eT]; exact Ar.1) (State.isArrayOf_alike hZ.alike Ar.2.1) rfl Ar.2.2 hin (H.at hin (v := v) (by rw [hi]; simp [hv])) hg hs hd _) ?_
  exact k
theorem dp1 (X : Stand p l e R s m args below meth c T locs cells slots) (hx : p.tables.exec = Jvm.exec) (hZ : Z.Warmed39 s.vm) (eT : T.heap = h) (F : ac2 C Z h a xs) {j : Int32} {v : Value} {i : Nat} (hj : j.toInt = (i : Int)) (hl : i < xs.length) (hv : v = .null ∨ ∃ y, v = .ref y ∧ Ins Z h y C true) {g : JFrame} (hg : g.method = m) {rest : List Value} (hs : g.stack = v :: .int j :: .ref a :: rest) (hd : decode c.code g.pc = .ok (.aastore, 1))
    (k : ∀ T' h', Stand p l e R s m args below meth c T' (locs ++ [⟨a, j.toNatClampNeg⟩]) cells slots → T'.heap = h' → Wr h h' a j.toNatClampNeg v → ac2 C Z h' a (xs.set i v) → aa0 p e below P (T'.setTop { g with pc := g.pc + 1, stack := rest })) : aa0 p e below P (T.setTop g) := by
  obtain ⟨k', z, ⟨cl, Ar, q1, S, N, H, G⟩, r, E⟩ := F
  obtain ⟨hn, hi⟩ := bk0 hj
  have hin : ¬ (j < 0 ∨ cl.slots.size ≤ j.toNatClampNeg) := fun q => q.elim hn (fun y => by rw [S, r, hi] at y; omega)
  have hS : Sto Z h a v := hv.elim Or.inl fun ⟨y, e1, I⟩ => by subst e1; exact Sto.ofV Ar q1 E I
  have hf : fits (.object C) v = true := hv.elim (fun q => by subst q; rfl) fun ⟨y, e1, I⟩ => by subst e1; rfl
  obtain ⟨T', h', X', e', W, st⟩ := stR X hx hZ eT Ar (j := j) hin rfl hS hg hs hd
  refine an1 st (k T' h' X' e' W ⟨k', z, ?_, by rw [List.length_set]; exact r, E⟩)
  exact Arv.set Ar q1 S N H G hf W i hi hl
theorem ea2 (X : Stand p l e R s m args below meth c T locs cells slots) (hx : p.tables.exec = Jvm.exec) (hZ : Z.Warmed39 s.vm) {own : String} {index : Nat} (hown : s.vm.findClass own = some m.cls) (w1 : (Jvm.Cond.classLink own index C).before a0 Z = true) (w2 : (Jvm.Cond.arrayOver (.object C)).before a0 Z = true) (eT : T.heap = h) {j : Int32} {n : Nat} (hj : j.toInt = (n : Int)) (cap : Nat) (hcap : n ≤ cap) (hb : cap * 8 ≤ 536870912) (hc : cells + 1 ≤ R.cells) (hl : slots + cap ≤ R.slots) {g : JFrame} (hg : g.method = m) {rest : List Value} (hs : g.stack = .int j :: rest) (hd : decode c.code g.pc = .ok (.anewarray index, 3))
    (k : ∀ T' h', Stand p l e R s m args below meth c T' locs (cells + 1) (slots + cap) → T'.heap = h' → Ext h h' → ac2 C Z h' h.size (List.replicate n .null) → aa0 p e below P (T'.setTop { g with pc := g.pc + 3, stack := .ref h.size :: rest })) : aa0 p e below P (T.setTop g) := by
  obtain ⟨hn, hi⟩ := bk0 hj
  obtain ⟨T', h', cA, X', e', E, A, Ex, O, st⟩ := newRE X hx hZ hown w1 w2 eT hg hd hs hn (cap := cap) (by rw [hi]; exact hcap) hb hc hl rfl
  refine an1 st (k T' h' X' e' E ⟨cA, j, ?_, by rw [hi, List.length_replicate], O⟩)
  exact (Arv.new A hn).pad (vs' := List.replicate n .null) (fun i => by simp [List.getD_eq_getElem?_getD, List.getElem?_replicate, defaultValue]; split <;> rfl)
end OwnR
theorem ak9 {Z : State} {h : Heap} {a : Addr} {C : String} {xs : List Value} (F : ac2 C Z h a xs) : ∃ c : Cell, h[a]? = some c ∧ c.vm.isStatics = false := by obtain ⟨k, z, A, -⟩ := F; exact cb7 A
theorem em7 {Z : State} {h : Heap} {a : Addr} {xs : List Int32} (F : ax2 Z h a xs) : ∃ c : Cell, h[a]? = some c ∧ c.vm.isStatics = false := by obtain ⟨k, z, A, -⟩ := F; exact cb7 A
section OwnRd
variable {p : Program} {l : Launch} {e : Env} {R : Room} {s : State} {m : MethodId} {args : Array Value} {below : List Frame} {meth : Method} {c : Code} {T : State} {locs : List Loc} {cells slots : Nat} {Z : State} {a0 : Array Value} {h : Heap} {P : Outcome → State → Prop}
/-- an entry that was resolved before: its field is ready wherever the walk stands -/
theorem cn7 (X : Stand p l e R s m args below meth c T locs cells slots) (hZ : Z.Warmed39 s.vm) {own R0 O n d : String} {index : Nat} (hown : s.vm.findClass own = some m.cls) (w : (Jvm.Cond.fieldRef own index R0 n d).before a0 Z = true) (via : Via Z R0 O n d) {cf i : Nat} {k : Class} {f : Field} (hf : Z.fieldFound? O n d = some (cf, k, i, f)) : T.vm.fieldReady m.cls index cf f := by
  have q1 : (Jvm.Cond.fieldRef own index R0 n d).before a0 s = true := (Cond.fieldRef_warmed39 hZ w :)
  have q2 : (Jvm.Cond.fieldRef own index R0 n d).before a0 (s.setVm T.vm) = true := Cond.fieldRef_warmed X.warmed q1
  have hcur : (s.setVm T.vm).vm.findClass own = some m.cls := by
    show T.vm.findClass own = some m.cls
    rw [X.warmed.alike.findClass]; exact hown
  obtain ⟨c1, k1, i1, f1, hf1, hr1⟩ := Cond.fieldRef_spec (s := s.setVm T.vm) hcur q2
  obtain ⟨k2, g2, -⟩ := State.fieldFound?_setVm (s := Z) hZ.alike (via _ hf)
  have g2' : s.fieldFound? R0 n d = some (cf, k2, i, f) := g2
  obtain ⟨k3, g3, -⟩ := State.fieldFound?_setVm (s := s) X.warmed.alike g2'
  cases hf1.symm.trans g3
  exact hr1
theorem bl0 (X : Stand p l e R s m args below meth c T locs cells slots) (hx : p.tables.exec = Jvm.exec) (hZ : Z.Warmed39 s.vm) {own R0 O n d : String} {index : Nat} (hown : s.vm.findClass own = some m.cls) (w : (Jvm.Cond.fieldRef own index R0 n d).before a0 Z = true) (via : Via Z R0 O n d)
    (eT : T.heap = h) {a : Addr} {v : Value} (F : Fld Z h a O n d v) {g : JFrame} (hg : g.method = m) {rest : List Value} (hs : g.stack = .ref a :: rest) (hd : decode c.code g.pc = .ok (.getfield index, 3)) : ∃ T', Stand p l e R s m args below meth c T' locs cells slots ∧ T'.heap = h ∧ ∀ target, Steps p.tables e below (T'.setTop { g with pc := g.pc + 3, stack := v :: rest }) target → Steps p.tables e below (T.setTop g) target := by
  obtain ⟨cell, cf, k, i, f, h1, h2, h3, h4, -, -, h7⟩ := F
  have hr := cn7 X hZ hown w via h2
  refine ⟨T, X, eT, fun target hrest => ?_⟩
  have hc : T.heap[a]? = some cell := by rw [eT]; exact h1
  subst hg
  jvm_step X.here [hx, hd, getfield.wp_ready (e := e) (s := T) (f := g) X.here.top hr h3 hs hc h4 h7]
  exact hrest
theorem be1 (X : Stand p l e R s m args below meth c T locs cells slots) (hx : p.tables.exec = Jvm.exec) (hZ : Z.Warmed39 s.vm) {own R0 O n d C : String} {index kk : Nat} {ty : FieldType} (hown : s.vm.findClass own = some m.cls) (w : (Jvm.Cond.fieldRef own index R0 n d).before a0 Z = true) (via : Via Z R0 O n d)
    (eT : T.heap = h) {a : Addr} {v old : Value} (F : Fld Z h a O n d old) (E : Exa Z h a C) (L : (Jvm.Cond.lays C O n d).before a0 Z = true) (wi : (Jvm.Cond.instantiable C kk).before a0 Z = true)
    (hty : parseFieldDescriptor d = some ty) (hn : narrow ty v = v) (hf : fits ty v = true) {g : JFrame} (hg : g.method = m) {rest : List Value} (hs : g.stack = v :: .ref a :: rest) (hd : decode c.code g.pc = .ok (.putfield index, 3)) :
    ∃ T' h', Stand p l e R s m args below meth c T' (locs ++ [⟨a, Jvm.RoadKit.slotOf Z O n d⟩]) cells slots ∧ T'.heap = h' ∧ Wr h h' a (Jvm.RoadKit.slotOf Z O n d) v ∧ ∀ target, Steps p.tables e below (T'.setTop { g with pc := g.pc + 3, stack := rest }) target → Steps p.tables e below (T.setTop g) target := by
  obtain ⟨cell, cf, k, i, f, h1, h2, h3, h4, h5, -, h7⟩ := F
  obtain ⟨cell', kc, e1, e2, e3, -⟩ := E
  cases h1.symm.trans e1
  obtain ⟨c1, k1, cf1, kf1, i1, f1, a1, a2, a3, -, -, a6, -⟩ := Laid.spec (Or.inl L)
  cases h2.symm.trans a3
  cases e2.symm.trans a1
  obtain ⟨c2, k2, i1, i2, i3, -⟩ := Cond.instantiable_spec wi
  cases e2.symm.trans i1
  cases a2.symm.trans i2
  have ht := (State.fieldFound?_type h2 hty).2
  have hfit : Z.fitsSlot cell.cls cell.vm f.slot v = true := by
    have q : Z.slotType? cell.cls cell.vm f.slot = some ty := by
      simp only [State.slotType?, a2, Option.bind_eq_bind, Option.bind_some, i3]
      cases hq : cell.vm <;> first | (rw [hq] at h5; exact Bool.noConfusion h5) | (rw [a6, ht])
    simp [State.fitsSlot, q, hf]
  have hfit' : s.fitsSlot cell.cls cell.vm f.slot v = true := by rw [← State.fitsSlot_setVm hZ.alike] at hfit; exact hfit
  have hfit2 : T.fitsSlot cell.cls cell.vm f.slot v = true := by rw [← State.fitsSlot_setVm X.warmed.alike] at hfit'; exact hfit'
  obtain ⟨_, _, _, _, _, _, -, -, b3, -, b5, -⟩ := Cond.lays_spec L
  cases h2.symm.trans b3
  have hr := cn7 X hZ hown w via h2
  have hlt := (Array.getElem?_eq_some_iff.mp h7).1
  have es : Jvm.RoadKit.slotOf Z O n d = f.slot := by simp [Jvm.RoadKit.slotOf, h2]
  rw [es]
  obtain ⟨X', st⟩ := X.putfieldReady hx hr h3 (Or.inl b5) (by rw [eT]; exact h1) h4 hlt (by rw [ht]; exact hn) hfit2 hg hs hd
  exact ⟨_, _, X', rfl, ⟨cell, h1, h5, hlt, by rw [← eT]; rfl⟩, st⟩
theorem co7 (X : Stand p l e R s m args below meth c T locs cells slots) (hx : p.tables.exec = Jvm.exec) (hZ : Z.Warmed39 s.vm) {own : String} {index : Nat} {y : MethodName} {bytes : ByteArray} {maxL : Nat} {rm : Room} {as' : Array Value} {Q : Option Value → Heap → List Loc → Prop}
    (hy1 : y.name = "<init>") (hown : s.vm.findClass own = some m.cls) (w1 : (Jvm.Cond.methodRef own index y).before a0 Z = true) (w2 : (Jvm.Cond.instanceMethod y).before a0 Z = true) (w3 : (Jvm.Cond.initialized y.cls).before a0 Z = true) (w4 : (Jvm.Cond.code y bytes maxL none).before a0 Z = true) (hy : y.cls ≠ "java/lang/invoke/MethodHandle" ∧ y.cls ≠ "java/lang/invoke/VarHandle")
    (hM : ab3 l Z y bytes maxL none [] rm as' h Q) (W : Nat) (hf : rm.frames + 1 ≤ R.frames) (hl : W + (maxL + 11) + rm.locals ≤ R.locals) (eT : T.heap = h) (hc : cells + rm.cells ≤ R.cells) (hs : slots + rm.slots ≤ R.slots)
    {g : JFrame} (hg : g.method = m) (hsize : g.locals.size = c.maxLocals) {a : Addr} {argsL rest : List Value} (ha : (Value.ref a :: argsL).toArray = as') (hlen : ∀ sig, parseMethodDescriptor y.desc = some sig → argsL.length = sig.parameters.length) (hstack : g.stack = argsL.reverse ++ .ref a :: rest) (hW : 2 * g.monitorRoom + (rest.map fun v => v.category).sum ≤ W) (hdg : decode c.code g.pc = .ok (.invokespecial index, 3))
    (k : ∀ v T' L, Stand p l e R s m args below meth c T' (locs ++ L) (cells + rm.cells) (slots + rm.slots) → Q v T'.heap L → aa0 p e below P (T'.setTop { g with pc := g.pc + 3, stack := v.toList ++ rest })) : aa0 p e below P (T.setTop g) := by
  have hready : ∀ (U : State) (r : MethodId), s.WarmedH U.vm → s.methodNamed? y = some r → namesResolved U.vm m.cls index r.cls ∧ U.vm.methodReady m.cls index r := by
    intro U r hW hn
    obtain ⟨mz, -, hnz, -⟩ := Cond.instanceMethod_spec w2
    have q1 : (Jvm.Cond.methodRef own index y).before a0 s = true := (Cond.methodRef_warmed39 hZ hnz hy w1 :)
    have q2 : (Jvm.Cond.methodRef own index y).before a0 (s.setVm U.vm) = true := Cond.methodRef_warmed hW hn hy q1
    have hcur : (s.setVm U.vm).vm.findClass own = some m.cls := by
      show U.vm.findClass own = some m.cls
      rw [hW.alike.findClass]; exact hown
    obtain ⟨m', c', hf, hr, hfind, hnr⟩ := Cond.methodRef_named e (s := s.setVm U.vm) hcur q2
    have hf' := State.methodFound?_of_named hn hy
    rw [← State.methodFound?_setVm_of_named hW.alike hn hy] at hf'
    cases hf.symm.trans hf'
    have hc' : (s.setVm U.vm).vm.findClass y.cls = some r.cls := by
      show U.vm.findClass y.cls = some r.cls
      rw [hW.alike.findClass]; exact findClass_of_methodNamed hn
    cases hfind.symm.trans hc'
    exact ⟨hnr, hr⟩
  obtain ⟨v, vm₁, ⟨T', L', k', n'⟩, -, X', ⟨L, hQ, h1, h2, h3⟩, st⟩ := Jvm.Free.SCall.of_ready hx hy1 (mvT hZ w2) (mvT hZ w4) hready X (backOf (W := W) hM hZ w4 w3 hf hl) hg hsize (Steps.refl _) hlen hstack hW hdg (fun _ _ => ⟨ha, eT, hc, hs⟩)
  dsimp only [Pt.U, Pt.locs, Pt.cells, Pt.slots] at X' h1 h2 h3 st hQ
  subst h1 h2 h3
  exact cp3 st (k v T' L X' hQ)
theorem df5 (X : Stand p l e R s m args below meth c T locs cells slots) (hx : p.tables.exec = Jvm.exec) (hZ : Z.Warmed39 s.vm) {own host : String} {index : Nat} {y : MethodName} {bytes : ByteArray} {maxL : Nat} {rm : Room} {as' : Array Value} {Q : Option Value → Heap → List Loc → Prop}
    (hy1 : y.name = "<init>") (hown : s.vm.findClass own = some m.cls) (w1 : (Jvm.Cond.methodLinkNest own index y host).before a0 Z = true) (w2 : (Jvm.Cond.instanceMethod y).before a0 Z = true) (w3 : (Jvm.Cond.initialized y.cls).before a0 Z = true) (w4 : (Jvm.Cond.code y bytes maxL none).before a0 Z = true) (hy : y.cls ≠ "java/lang/invoke/MethodHandle" ∧ y.cls ≠ "java/lang/invoke/VarHandle")
    (hM : ab3 l Z y bytes maxL none [] rm as' h Q) (W : Nat) (hf : rm.frames + 1 ≤ R.frames) (hl : W + (maxL + 11) + rm.locals ≤ R.locals) (eT : T.heap = h) (hc : cells + rm.cells ≤ R.cells) (hs : slots + rm.slots ≤ R.slots)
    {g : JFrame} (hg : g.method = m) (hsize : g.locals.size = c.maxLocals) {a : Addr} {argsL rest : List Value} (ha : (Value.ref a :: argsL).toArray = as') (hlen : ∀ sig, parseMethodDescriptor y.desc = some sig → argsL.length = sig.parameters.length) (hstack : g.stack = argsL.reverse ++ .ref a :: rest) (hW : 2 * g.monitorRoom + (rest.map fun v => v.category).sum ≤ W) (hdg : decode c.code g.pc = .ok (.invokespecial index, 3))
    (k : ∀ v T' L, Stand p l e R s m args below meth c T' (locs ++ L) (cells + rm.cells) (slots + rm.slots) → Q v T'.heap L → aa0 p e below P (T'.setTop { g with pc := g.pc + 3, stack := v.toList ++ rest })) : aa0 p e below P (T.setTop g) := by
  have w1' : (Jvm.Cond.methodLinkNest own index y host).before args s = true := (Cond.methodLinkNest_wide hZ w1 :)
  obtain ⟨v, vm₁, ⟨T', L', k', n'⟩, -, X', ⟨L, hQ, h1, h2, h3⟩, st⟩ := X.specialBackNest hx hy1 hown w1' (mvT hZ w2) (mvT hZ w4) hy (backOf (W := W) hM hZ w4 w3 hf hl) hg hsize (Steps.refl _) hlen hstack hW hdg (fun _ _ => ⟨ha, eT, hc, hs⟩)
  dsimp only [Pt.U, Pt.locs, Pt.cells, Pt.slots] at X' h1 h2 h3 st hQ
  subst h1 h2 h3
  exact cp3 st (k v T' L X' hQ)
end OwnRd
/-- a char[] at a that holds xs -/
def ay7 (Z : State) (h : Heap) (a : Addr) (xs : List Int32) : Prop :=
  ∃ k z, Arv Z h a k .char z (xs.map Value.int) (.int 0) ∧ z.toNatClampNeg = xs.length ∧ Exa Z h a "[C"
section OwnC
variable {p : Program} {l : Launch} {e : Env} {R : Room} {s : State} {m : MethodId} {args : Array Value} {below : List Frame} {meth : Method} {c : Code} {T : State} {locs : List Loc} {cells slots : Nat} {Z : State} {a0 : Array Value} {h h' : Heap} {P : Outcome → State → Prop} {a b : Addr} {xs ys : List Int32}
theorem ay7.lt (F : ay7 Z h a xs) : a < h.size := by obtain ⟨k, z, A, -⟩ := F; exact A.lt
theorem ay7.ext (F : ay7 Z h a xs) (E : Ext h h') : ay7 Z h' a xs := by obtain ⟨k, z, A, q, X⟩ := F; exact ⟨k, z, A.ext E, q, X.ext E⟩
theorem ay7.other {sl : Nat} {v : Value} (F : ay7 Z h a xs) (W : Wr h h' b sl v) (ne : a ≠ b) : ay7 Z h' a xs := by obtain ⟨k, z, A, q, X⟩ := F; exact ⟨k, z, A.other W ne, q, X.wr W⟩
theorem ay7.keep {ws : List Addr} (F : ay7 Z h a xs) (K : Keep h h' ws) (q : a ∉ ws) : ay7 Z h' a xs := by obtain ⟨k, z, A, r, X⟩ := F; exact ⟨k, z, A.keep K q, r, X.keep K⟩
theorem ay7.len (F : ay7 Z h a xs) : xs.length < 2 ^ 31 := by obtain ⟨k, z, ⟨cl, -, -, -, q, -⟩, r, -⟩ := F; rw [← r]; exact (back32 q).2
theorem ay7.ins (F : ay7 Z h a xs) : Ins Z h a "[C" true := by obtain ⟨k, z, A, r, X⟩ := F; exact Ins.self X
theorem ay7.safe {EL : List (String × Nat)} {vm : Vm} (F : ay7 Z h a xs) (hal : Z.vm.Alike vm) : Safe Z EL vm h a := by obtain ⟨k, z, A, -⟩ := F; exact Safe.arv hal A (by decide)
theorem ew6 (X : Stand p l e R s m args below meth c T locs cells slots) (hx : p.tables.exec = Jvm.exec) (hZ : Z.Warmed39 s.vm) (eT : T.heap = h) (F : ay7 Z h a xs) {g : JFrame} (hg : g.method = m) {rest : List Value} (hs : g.stack = .ref a :: rest) (hd : decode c.code g.pc = .ok (.arraylength, 1))
    (k : aa0 p e below P (T.setTop { g with pc := g.pc + 1, stack := .int (Int32.ofNat xs.length) :: rest })) : aa0 p e below P (T.setTop g) := by
  obtain ⟨k', z, ⟨cl, Ar, q1, S, N, H, G⟩, r, -⟩ := F
  refine an1 (fun _ => X.arraylength hx (by rw [eT]; exact Ar.1) (State.isArrayOf_alike hZ.alike Ar.2.1) hg hs hd _) ?_
  rw [S, r]; exact k
theorem ez5 (X : Stand p l e R s m args below meth c T locs cells slots) (hx : p.tables.exec = Jvm.exec) (hZ : Z.Warmed39 s.vm) (eT : T.heap = h) (F : ay7 Z h a xs) {j : Int32} {v : Int32} {i : Nat} (hj : j.toInt = (i : Int)) (hv : xs[i]? = some v) {g : JFrame} (hg : g.method = m) {rest : List Value} (hs : g.stack = .int j :: .ref a :: rest) (hd : decode c.code g.pc = .ok (.caload, 1))
    (k : aa0 p e below P (T.setTop { g with pc := g.pc + 1, stack := .int v :: rest })) : aa0 p e below P (T.setTop g) := by
  obtain ⟨k', z, ⟨cl, Ar, q1, S, N, H, G⟩, r, -⟩ := F
  obtain ⟨hn, hi⟩ := bk0 hj
  have hl : i < xs.length := (List.getElem?_eq_some_iff.mp hv).1
  have hin : ¬ (j < 0 ∨ cl.slots.size ≤ j.toNatClampNeg) := fun q => q.elim hn (fun y => by rw [S, r, hi] at y; omega)
  refine an1 (fun _ => X.caload hx (by rw [eT]; exact Ar.1) (State.isArrayOf_alike hZ.alike Ar.2.1) Ar.2.2 hin (H.at hin (v := .int v) (by rw [hi]; simp [hv])) hg hs hd _) ?_
  exact k
theorem ek5 (X : Stand p l e R s m args below meth c T locs cells slots) (hx : p.tables.exec = Jvm.exec) (hZ : Z.Warmed39 s.vm) (eT : T.heap = h) (F : ay7 Z h a xs) {j : Int32} {v : Int32} {i : Nat} (hj : j.toInt = (i : Int)) (hl : i < xs.length) {g : JFrame} (hg : g.method = m) {rest : List Value} (hs : g.stack = .int v :: .int j :: .ref a :: rest) (hd : decode c.code g.pc = .ok (.castore, 1))
    (k : ∀ T' h', Stand p l e R s m args below meth c T' (locs ++ [⟨a, j.toNatClampNeg⟩]) cells slots → T'.heap = h' → Wr h h' a j.toNatClampNeg (.int (nar .char v)) → ay7 Z h' a (xs.set i (nar .char v)) → aa0 p e below P (T'.setTop { g with pc := g.pc + 1, stack := rest })) : aa0 p e below P (T.setTop g) := by
  obtain ⟨k', z, ⟨cl, Ar, q1, S, N, H, G⟩, r, E⟩ := F
  obtain ⟨hn, hi⟩ := bk0 hj
  have hin : ¬ (j < 0 ∨ cl.slots.size ≤ j.toNatClampNeg) := fun q => q.elim hn (fun y => by rw [S, r, hi] at y; omega)
  obtain ⟨T', h', X', e', W, st⟩ := stC X hx hZ eT Ar (j := j) hin hg hs hd
  refine an1 st (k T' h' X' e' W ⟨k', z, ?_, by rw [List.length_set]; exact r, E.wr W⟩)
  have := Arv.set Ar q1 S N H G (fits_nar_char _) W i hi (by rw [List.length_map]; exact hl)
  rwa [← List.map_set] at this
theorem eb2 (X : Stand p l e R s m args below meth c T locs cells slots) (hx : p.tables.exec = Jvm.exec) (hZ : Z.Warmed39 s.vm) (w : (Jvm.Cond.arrayClass .char).before a0 Z = true) (eT : T.heap = h) {j : Int32} {n : Nat} (hj : j.toInt = (n : Int)) (cap : Nat) (hcap : n ≤ cap) (hb : cap * 8 ≤ 536870912) (hc : cells + 1 ≤ R.cells) (hl : slots + cap ≤ R.slots) {g : JFrame} (hg : g.method = m) {rest : List Value} (hs : g.stack = .int j :: rest) (hd : decode c.code g.pc = .ok (.newarray .char, 2))
    (k : ∀ T' h', Stand p l e R s m args below meth c T' locs (cells + 1) (slots + cap) → T'.heap = h' → Ext h h' → ay7 Z h' h.size (List.replicate n 0) → aa0 p e below P (T'.setTop { g with pc := g.pc + 2, stack := .ref h.size :: rest })) : aa0 p e below P (T.setTop g) := by
  obtain ⟨hn, hi⟩ := bk0 hj
  obtain ⟨T', h', cA, X', e', E, A, Ex, st⟩ := newPE X hx hZ (aty := .char) w eT hg hd hs hn (cap := cap) (by rw [hi]; exact hcap) hb hc hl (ad := "[C") (by decide)
  refine an1 st (k T' h' X' e' E ⟨cA, j, ?_, by rw [hi, List.length_replicate], Ex⟩)
  have := (Arv.new A hn).pad (vs' := (List.replicate n (0 : Int32)).map Value.int) (fun i => by simp [List.getD_eq_getElem?_getD, List.getElem?_replicate, newarray.typeOf, defaultValue]; split <;> rfl)
  exact this
end OwnC
section OwnZ
variable {p : Program} {l : Launch} {e : Env} {R : Room} {s : State} {m : MethodId} {args : Array Value} {below : List Frame} {meth : Method} {c : Code} {T : State} {locs : List Loc} {cells slots : Nat} {Z : State} {a0 : Array Value} {h : Heap} {P : Outcome → State → Prop} {pc : Nat} {Ls : Array Slot} {S : List Value}
theorem aw1 (X : Stand p l e R s m args below meth c T locs cells slots) (hx : p.tables.exec = Jvm.exec) {k : Nat} {v : Value} (hd : decode c.code pc = .ok (.aload k, 2)) (hl : Ls[k]? = some (.val v)) (hv : v.isRef = true) (r : aa0 p e below P (T.setTop (mkF m (pc + 2) Ls (v :: S)))) : aa0 p e below P (T.setTop (mkF m (pc) Ls (S))) := an1 (fun _ => XS.aload X.here hx rfl hd hl hv) r
theorem ae0 (X : Stand p l e R s m args below meth c T locs cells slots) (hx : p.tables.exec = Jvm.exec) {k : Fin 4} {v : Value} (hd : decode c.code pc = .ok (.aload_n k, 1)) (hl : Ls[k.val]? = some (.val v)) (hv : v.isRef = true) (r : aa0 p e below P (T.setTop (mkF m (pc + 1) Ls (v :: S)))) : aa0 p e below P (T.setTop (mkF m (pc) Ls (S))) := an1 (fun _ => XS.aloadN X.here hx rfl hd hl hv) r
theorem ay1 (X : Stand p l e R s m args below meth c T locs cells slots) (hx : p.tables.exec = Jvm.exec) {k : Nat} {v : Int32} (hd : decode c.code pc = .ok (.iload k, 2)) (hl : Ls[k]? = some (.val (.int v))) (r : aa0 p e below P (T.setTop (mkF m (pc + 2) Ls (.int v :: S)))) : aa0 p e below P (T.setTop (mkF m (pc) Ls (S))) := an1 (fun _ => XS.iload X.here hx rfl hd hl) r
theorem ae1 (X : Stand p l e R s m args below meth c T locs cells slots) (hx : p.tables.exec = Jvm.exec) {k : Fin 4} {v : Int32} (hd : decode c.code pc = .ok (.iload_n k, 1)) (hl : Ls[k.val]? = some (.val (.int v))) (r : aa0 p e below P (T.setTop (mkF m (pc + 1) Ls (.int v :: S)))) : aa0 p e below P (T.setTop (mkF m (pc) Ls (S))) := an1 (fun _ => XS.iloadN X.here hx rfl hd hl) r
theorem as4 (X : Stand p l e R s m args below meth c T locs cells slots) (hx : p.tables.exec = Jvm.exec) {k : Nat} {x : Int32} {l' : Array Slot} (hd : decode c.code pc = .ok (.istore k, 2)) (hl : storeLocals Ls k (.int x) = some l') (r : aa0 p e below P (T.setTop (mkF m (pc + 2) l' (S)))) : aa0 p e below P (T.setTop (mkF m (pc) Ls (.int x :: S))) := an1 (fun _ => XS.istore X.here hx rfl hd rfl hl) r
theorem ag4 (X : Stand p l e R s m args below meth c T locs cells slots) (hx : p.tables.exec = Jvm.exec) {k : Fin 4} {x : Int32} {l' : Array Slot} (hd : decode c.code pc = .ok (.istore_n k, 1)) (hl : storeLocals Ls k.val (.int x) = some l') (r : aa0 p e below P (T.setTop (mkF m (pc + 1) l' (S)))) : aa0 p e below P (T.setTop (mkF m (pc) Ls (.int x :: S))) := an1 (fun _ => XS.istoreN X.here hx rfl hd rfl hl) r
theorem ao6 (X : Stand p l e R s m args below meth c T locs cells slots) (hx : p.tables.exec = Jvm.exec) {k : Nat} {x : Value} {l' : Array Slot} (hd : decode c.code pc = .ok (.astore k, 2)) (hv : x.isRef = true) (hl : storeLocals Ls k x = some l') (r : aa0 p e below P (T.setTop (mkF m (pc + 2) l' (S)))) : aa0 p e below P (T.setTop (mkF m (pc) Ls (x :: S))) := an1 (fun _ => XS.astore X.here hx rfl hd rfl hv hl) r
theorem bj2 (X : Stand p l e R s m args below meth c T locs cells slots) (hx : p.tables.exec = Jvm.exec) {k : Fin 4} {x : Value} {l' : Array Slot} (hd : decode c.code pc = .ok (.astore_n k, 1)) (hv : x.isRef = true) (hl : storeLocals Ls k.val x = some l') (r : aa0 p e below P (T.setTop (mkF m (pc + 1) l' (S)))) : aa0 p e below P (T.setTop (mkF m (pc) Ls (x :: S))) := an1 (fun _ => XS.astoreN X.here hx rfl hd rfl hv hl) r
theorem az0 (X : Stand p l e R s m args below meth c T locs cells slots) (hx : p.tables.exec = Jvm.exec) {i : Int} {z : Int32} (hd : decode c.code pc = .ok (.iconst i, 1)) (hz : Int32.ofInt i = z) (r : aa0 p e below P (T.setTop (mkF m (pc + 1) Ls (.int z :: S)))) : aa0 p e below P (T.setTop (mkF m (pc) Ls (S))) := by subst hz; exact an1 (fun _ => XS.iconst X.here hx rfl hd) r
theorem bu4 (X : Stand p l e R s m args below meth c T locs cells slots) (hx : p.tables.exec = Jvm.exec) {i : Int} {z : Int32} (hd : decode c.code pc = .ok (.bipush i, 2)) (hz : (Int8.ofInt i).toInt32 = z) (r : aa0 p e below P (T.setTop (mkF m (pc + 2) Ls (.int z :: S)))) : aa0 p e below P (T.setTop (mkF m (pc) Ls (S))) := by subst hz; exact an1 (fun _ => XS.bipush X.here hx rfl hd) r
theorem be8 (X : Stand p l e R s m args below meth c T locs cells slots) (hx : p.tables.exec = Jvm.exec) {i : Int} {z : Int32} (hd : decode c.code pc = .ok (.sipush i, 3)) (hz : (Int16.ofInt i).toInt32 = z) (r : aa0 p e below P (T.setTop (mkF m (pc + 3) Ls (.int z :: S)))) : aa0 p e below P (T.setTop (mkF m (pc) Ls (S))) := by subst hz; exact an1 (fun _ => XS.sipush X.here hx rfl hd) r
theorem cy4 (X : Stand p l e R s m args below meth c T locs cells slots) (hx : p.tables.exec = Jvm.exec) (hd : decode c.code pc = .ok (.aconst_null, 1)) (r : aa0 p e below P (T.setTop (mkF m (pc + 1) Ls (.null :: S)))) : aa0 p e below P (T.setTop (mkF m (pc) Ls (S))) := an1 (fun _ => XS.aconstNull X.here hx rfl hd) r
theorem ad6 (X : Stand p l e R s m args below meth c T locs cells slots) (hx : p.tables.exec = Jvm.exec) {x y z : Int32} (hd : decode c.code pc = .ok (.iadd, 1)) (hz : x + y = z) (r : aa0 p e below P (T.setTop (mkF m (pc + 1) Ls (.int z :: S)))) : aa0 p e below P (T.setTop (mkF m (pc) Ls (.int y :: .int x :: S))) := by subst hz; exact an1 (fun _ => XS.iadd X.here hx rfl hd rfl) r
theorem bt1 (X : Stand p l e R s m args below meth c T locs cells slots) (hx : p.tables.exec = Jvm.exec) {x y z : Int32} (hd : decode c.code pc = .ok (.isub, 1)) (hz : x - y = z) (r : aa0 p e below P (T.setTop (mkF m (pc + 1) Ls (.int z :: S)))) : aa0 p e below P (T.setTop (mkF m (pc) Ls (.int y :: .int x :: S))) := by subst hz; exact an1 (fun _ => XS.isub X.here hx rfl hd rfl) r
theorem cp7 (X : Stand p l e R s m args below meth c T locs cells slots) (hx : p.tables.exec = Jvm.exec) {x y z : Int32} (hd : decode c.code pc = .ok (.imul, 1)) (hz : x * y = z) (r : aa0 p e below P (T.setTop (mkF m (pc + 1) Ls (.int z :: S)))) : aa0 p e below P (T.setTop (mkF m (pc) Ls (.int y :: .int x :: S))) := by subst hz; exact an1 (fun _ => XS.imul X.here hx rfl hd rfl) r
theorem az7 (X : Stand p l e R s m args below meth c T locs cells slots) (hx : p.tables.exec = Jvm.exec) {x y z : Int32} (hd : decode c.code pc = .ok (.iand, 1)) (hz : x &&& y = z) (r : aa0 p e below P (T.setTop (mkF m (pc + 1) Ls (.int z :: S)))) : aa0 p e below P (T.setTop (mkF m (pc) Ls (.int y :: .int x :: S))) := by subst hz; exact an1 (fun _ => XS.iand X.here hx rfl hd rfl) r
theorem ex7 (X : Stand p l e R s m args below meth c T locs cells slots) (hx : p.tables.exec = Jvm.exec) {x y z : Int32} (hd : decode c.code pc = .ok (.ior, 1)) (hz : x ||| y = z) (r : aa0 p e below P (T.setTop (mkF m (pc + 1) Ls (.int z :: S)))) : aa0 p e below P (T.setTop (mkF m (pc) Ls (.int y :: .int x :: S))) := by subst hz; exact an1 (fun _ => XS.ior X.here hx rfl hd rfl) r
theorem ex4 (X : Stand p l e R s m args below meth c T locs cells slots) (hx : p.tables.exec = Jvm.exec) {x y z : Int32} (hd : decode c.code pc = .ok (.ixor, 1)) (hz : x ^^^ y = z) (r : aa0 p e below P (T.setTop (mkF m (pc + 1) Ls (.int z :: S)))) : aa0 p e below P (T.setTop (mkF m (pc) Ls (.int y :: .int x :: S))) := by subst hz; exact an1 (fun _ => XS.ixor X.here hx rfl hd rfl) r
theorem eu7 (X : Stand p l e R s m args below meth c T locs cells slots) (hx : p.tables.exec = Jvm.exec) {x y z : Int32} (hd : decode c.code pc = .ok (.ishl, 1)) (hz : x <<< (y &&& 31) = z) (r : aa0 p e below P (T.setTop (mkF m (pc + 1) Ls (.int z :: S)))) : aa0 p e below P (T.setTop (mkF m (pc) Ls (.int y :: .int x :: S))) := by subst hz; exact an1 (fun _ => XS.ishl X.here hx rfl hd rfl) r
theorem ev7 (X : Stand p l e R s m args below meth c T locs cells slots) (hx : p.tables.exec = Jvm.exec) {x y z : Int32} (hd : decode c.code pc = .ok (.ishr, 1)) (hz : x >>> (y &&& 31) = z) (r : aa0 p e below P (T.setTop (mkF m (pc + 1) Ls (.int z :: S)))) : aa0 p e below P (T.setTop (mkF m (pc) Ls (.int y :: .int x :: S))) := by subst hz; exact an1 (fun _ => XS.ishr X.here hx rfl hd rfl) r
theorem dt4 (X : Stand p l e R s m args below meth c T locs cells slots) (hx : p.tables.exec = Jvm.exec) {x y z : Int32} (hd : decode c.code pc = .ok (.iushr, 1)) (hz : (x.toUInt32 >>> (y &&& 31).toUInt32).toInt32 = z) (r : aa0 p e below P (T.setTop (mkF m (pc + 1) Ls (.int z :: S)))) : aa0 p e below P (T.setTop (mkF m (pc) Ls (.int y :: .int x :: S))) := by subst hz; exact an1 (fun _ => XS.iushr X.here hx rfl hd rfl) r
theorem ea6 (X : Stand p l e R s m args below meth c T locs cells slots) (hx : p.tables.exec = Jvm.exec) {x z : Int32} (hd : decode c.code pc = .ok (.i2b, 1)) (hz : x.toInt8.toInt32 = z) (r : aa0 p e below P (T.setTop (mkF m (pc + 1) Ls (.int z :: S)))) : aa0 p e below P (T.setTop (mkF m (pc) Ls (.int x :: S))) := by subst hz; exact an1 (fun _ => XS.i2b X.here hx rfl hd rfl) r
theorem dr0 (X : Stand p l e R s m args below meth c T locs cells slots) (hx : p.tables.exec = Jvm.exec) {x z : Int32} (hd : decode c.code pc = .ok (.i2c, 1)) (hz : x.toUInt32.toUInt16.toUInt32.toInt32 = z) (r : aa0 p e below P (T.setTop (mkF m (pc + 1) Ls (.int z :: S)))) : aa0 p e below P (T.setTop (mkF m (pc) Ls (.int x :: S))) := by subst hz; exact an1 (fun _ => XS.i2c X.here hx rfl hd rfl) r
theorem bi0 (X : Stand p l e R s m args below meth c T locs cells slots) (hx : p.tables.exec = Jvm.exec) {x : Value} (hd : decode c.code pc = .ok (.dup, 1)) (hc : x.category = 1) (r : aa0 p e below P (T.setTop (mkF m (pc + 1) Ls (x :: x :: S)))) : aa0 p e below P (T.setTop (mkF m (pc) Ls (x :: S))) := an1 (fun _ => XS.dup X.here hx rfl hd rfl hc) r
theorem ey7 (X : Stand p l e R s m args below meth c T locs cells slots) (hx : p.tables.exec = Jvm.exec) {x : Value} (hd : decode c.code pc = .ok (.pop, 1)) (hc : x.category = 1) (r : aa0 p e below P (T.setTop (mkF m (pc + 1) Ls (S)))) : aa0 p e below P (T.setTop (mkF m (pc) Ls (x :: S))) := an1 (fun _ => XS.pop X.here hx rfl hd rfl hc) r
theorem ck5 (X : Stand p l e R s m args below meth c T locs cells slots) (hx : p.tables.exec = Jvm.exec) {x y : Value} (hd : decode c.code pc = .ok (.dup_x1, 1)) (hc : x.category = 1) (hc2 : y.category = 1) (r : aa0 p e below P (T.setTop (mkF m (pc + 1) Ls (x :: y :: x :: S)))) : aa0 p e below P (T.setTop (mkF m (pc) Ls (x :: y :: S))) := an1 (fun _ => XS.dupX1 X.here hx rfl hd rfl hc hc2) r
theorem cq7 (X : Stand p l e R s m args below meth c T locs cells slots) (hx : p.tables.exec = Jvm.exec) {x y : Value} (hd : decode c.code pc = .ok (.dup2, 1)) (hc : x.category = 1) (hc2 : y.category = 1) (r : aa0 p e below P (T.setTop (mkF m (pc + 1) Ls (x :: y :: x :: y :: S)))) : aa0 p e below P (T.setTop (mkF m (pc) Ls (x :: y :: S))) := an1 (fun _ => Jvm.Free.XT.dup2 X.here hx rfl hd rfl hc hc2) r
theorem ao4 (X : Stand p l e R s m args below meth c T locs cells slots) (hx : p.tables.exec = Jvm.exec) {o : Int} {pc' : Nat} (hd : decode c.code pc = .ok (.goto o, 3)) (r : aa0 p e below P (T.setTop (mkF m (pc') Ls (S)))) (ho : 0 ≤ (pc : Int) + o := by decide) (hp : ((pc : Int) + o).toNat = pc' := by decide) : aa0 p e below P (T.setTop (mkF m (pc) Ls (S))) := an1 (fun _ => XS.goto X.here hx rfl (pc0 := pc) (pc' := pc') rfl hd ho hp) r
theorem al7 (X : Stand p l e R s m args below meth c T locs cells slots) (hx : p.tables.exec = Jvm.exec) {cd : ClassFile.Cond} {x : Int32} {o : Int} {pc' : Nat} (hd : decode c.code pc = .ok (.ifCond cd o, 3)) (hc : ifCond.holds cd x = true) (r : aa0 p e below P (T.setTop (mkF m (pc') Ls (S)))) (ho : 0 ≤ (pc : Int) + o := by decide) (hp : ((pc : Int) + o).toNat = pc' := by decide) : aa0 p e below P (T.setTop (mkF m (pc) Ls (.int x :: S))) := an1 (fun _ => XS.ifYes X.here hx rfl (pc0 := pc) (pc' := pc') rfl hd rfl hc ho hp) r
theorem aq7 (X : Stand p l e R s m args below meth c T locs cells slots) (hx : p.tables.exec = Jvm.exec) {cd : ClassFile.Cond} {x : Int32} {o : Int} (hd : decode c.code pc = .ok (.ifCond cd o, 3)) (hc : ifCond.holds cd x = false) (r : aa0 p e below P (T.setTop (mkF m (pc + 3) Ls (S)))) : aa0 p e below P (T.setTop (mkF m (pc) Ls (.int x :: S))) := an1 (fun _ => XS.ifNo X.here hx rfl hd rfl hc) r
theorem au3 (X : Stand p l e R s m args below meth c T locs cells slots) (hx : p.tables.exec = Jvm.exec) {cd : ClassFile.Cond} {x y : Int32} {o : Int} {pc' : Nat} (hd : decode c.code pc = .ok (.if_icmp cd o, 3)) (hc : if_icmp.holds cd x y = true) (r : aa0 p e below P (T.setTop (mkF m (pc') Ls (S)))) (ho : 0 ≤ (pc : Int) + o := by decide) (hp : ((pc : Int) + o).toNat = pc' := by decide) : aa0 p e below P (T.setTop (mkF m (pc) Ls (.int y :: .int x :: S))) := an1 (fun _ => XS.icmpYes X.here hx rfl (pc0 := pc) (pc' := pc') rfl hd rfl hc ho hp) r
theorem a4 (X : Stand p l e R s m args below meth c T locs cells slots) (hx : p.tables.exec = Jvm.exec) {cd : ClassFile.Cond} {x y : Int32} {o : Int} (hd : decode c.code pc = .ok (.if_icmp cd o, 3)) (hc : if_icmp.holds cd x y = false) (r : aa0 p e below P (T.setTop (mkF m (pc + 3) Ls (S)))) : aa0 p e below P (T.setTop (mkF m (pc) Ls (.int y :: .int x :: S))) := an1 (fun _ => XS.icmpNo X.here hx rfl hd rfl hc) r
theorem bq1 (X : Stand p l e R s m args below meth c T locs cells slots) (hx : p.tables.exec = Jvm.exec) {o : Int} {pc' : Nat} (hd : decode c.code pc = .ok (.ifnull o, 3)) (r : aa0 p e below P (T.setTop (mkF m (pc') Ls (S)))) (ho : 0 ≤ (pc : Int) + o := by decide) (hp : ((pc : Int) + o).toNat = pc' := by decide) : aa0 p e below P (T.setTop (mkF m (pc) Ls (.null :: S))) := an1 (fun _ => XS.ifnullYes X.here hx rfl (pc0 := pc) (pc' := pc') rfl hd rfl ho hp) r
theorem bt0 (X : Stand p l e R s m args below meth c T locs cells slots) (hx : p.tables.exec = Jvm.exec) {o : Int} {b : Addr} (hd : decode c.code pc = .ok (.ifnull o, 3)) (r : aa0 p e below P (T.setTop (mkF m (pc + 3) Ls (S)))) : aa0 p e below P (T.setTop (mkF m (pc) Ls (.ref b :: S))) := an1 (fun _ => XS.ifnullNo X.here hx rfl hd rfl) r
theorem bf7 (X : Stand p l e R s m args below meth c T locs cells slots) (hx : p.tables.exec = Jvm.exec) {b : Addr} {o : Int} {pc' : Nat} (hd : decode c.code pc = .ok (.ifnonnull o, 3)) (r : aa0 p e below P (T.setTop (mkF m (pc') Ls (S)))) (ho : 0 ≤ (pc : Int) + o := by decide) (hp : ((pc : Int) + o).toNat = pc' := by decide) : aa0 p e below P (T.setTop (mkF m (pc) Ls (.ref b :: S))) := an1 (fun _ => XS.ifnonnullYes X.here hx rfl (pc0 := pc) (pc' := pc') rfl hd rfl ho hp) r
theorem cm4 (X : Stand p l e R s m args below meth c T locs cells slots) (hx : p.tables.exec = Jvm.exec) {o : Int} (hd : decode c.code pc = .ok (.ifnonnull o, 3)) (r : aa0 p e below P (T.setTop (mkF m (pc + 3) Ls (S)))) : aa0 p e below P (T.setTop (mkF m (pc) Ls (.null :: S))) := an1 (fun _ => XS.ifnonnullNo X.here hx rfl hd rfl) r
theorem ey4 (X : Stand p l e R s m args below meth c T locs cells slots) (hx : p.tables.exec = Jvm.exec) {k : Nat} {cst : Int} {x : Int32} {l' : Array Slot} (hd : decode c.code pc = .ok (.iinc k cst, 3)) (hl : Ls[k]? = some (.val (.int x))) (hl' : storeLocals Ls k (.int (x + Int32.ofInt cst)) = some l') (r : aa0 p e below P (T.setTop (mkF m (pc + 3) l' (S)))) : aa0 p e below P (T.setTop (mkF m (pc) Ls (S))) := an1 (fun _ => XS.iinc X.here hx rfl hd hl hl') r
theorem bi1 (X : Stand p l e R s m args below meth c T locs cells slots) (hx : p.tables.exec = Jvm.exec) {cd : ACond} {x y : Value} (h1 : x.isRef = true) (h2 : y.isRef = true) {o : Int} {pc' : Nat} {same : Bool} (hd : decode c.code pc = .ok (.if_acmp cd o, 3)) (hq : decide (x = y) = same) (r : aa0 p e below P (T.setTop (mkF m (pc') Ls (S)))) (ho : 0 ≤ (pc : Int) + o := by decide) (hp : pc' = (if acV cd same = true then ((pc : Int) + o).toNat else pc + 3) := by decide) : aa0 p e below P (T.setTop (mkF m (pc) Ls (y :: x :: S))) := an1 (fun _ => Jvm.RoadKit.acmp (g := mkF m pc Ls (y :: x :: S)) X hx rfl h1 h2 (pc0 := pc) (pc' := pc') rfl hd rfl hq ho hp) r
theorem au0 (X : Stand p l e R s m args below meth c T locs cells slots) (hx : p.tables.exec = Jvm.exec) (hZ : Z.Warmed39 s.vm) {own R0 O n d host : String} {index : Nat} (hown : s.vm.findClass own = some m.cls) (w : (Jvm.Cond.fieldLink own index R0 n d).before a0 Z = true ∨ (Jvm.Cond.fieldLinkNest own index R0 n d host).before a0 Z = true) (via : Via Z R0 O n d) (eT : T.heap = h) {a : Addr} {v : Value} (F : Fld Z h a O n d v) (hd : decode c.code pc = .ok (.getfield index, 3)) (k : ∀ T', Stand p l e R s m args below meth c T' locs cells slots → T'.heap = h → aa0 p e below P (T'.setTop (mkF m (pc + 3) Ls (v :: S)))) : aa0 p e below P (T.setTop (mkF m (pc) Ls (.ref a :: S))) := by
  obtain ⟨T', X', e', st⟩ := getF X hx hZ hown w via eT F (g := mkF m pc Ls (.ref a :: S)) rfl rfl hd
  exact an1 st (k T' X' e')
theorem dw0 (X : Stand p l e R s m args below meth c T locs cells slots) (hx : p.tables.exec = Jvm.exec) (hZ : Z.Warmed39 s.vm) {own R0 O n d host : String} {index : Nat} (hown : s.vm.findClass own = some m.cls) (w : (Jvm.Cond.fieldLink own index R0 n d).before a0 Z = true ∨ (Jvm.Cond.fieldLinkNest own index R0 n d host).before a0 Z = true) (via : Via Z R0 O n d) (eT : T.heap = h) {v : Value} (F : Sta Z h O n d v) (hd : decode c.code pc = .ok (.getstatic index, 3)) (k : ∀ T', Stand p l e R s m args below meth c T' locs cells slots → T'.heap = h → aa0 p e below P (T'.setTop (mkF m (pc + 3) Ls (v :: S)))) : aa0 p e below P (T.setTop (mkF m (pc) Ls (S))) := by
  obtain ⟨T', X', e', st⟩ := getS2 X hx hZ hown w via eT F (g := mkF m pc Ls S) rfl hd
  exact an1 st (k T' X' e')
theorem am4 (X : Stand p l e R s m args below meth c T locs cells slots) (hx : p.tables.exec = Jvm.exec) (hZ : Z.Warmed39 s.vm) {own R0 O n d host C : String} {index kk : Nat} {ty : FieldType} (hown : s.vm.findClass own = some m.cls) (w : (Jvm.Cond.fieldLink own index R0 n d).before a0 Z = true ∨ (Jvm.Cond.fieldLinkNest own index R0 n d host).before a0 Z = true) (via : Via Z R0 O n d) (eT : T.heap = h) {a : Addr} {v old : Value} (F : Fld Z h a O n d old) (Ex : Exa Z h a C) (L : (Jvm.Cond.lays C O n d).before a0 Z = true ∨ ((Jvm.Cond.laysFinal C O n d).before a0 Z = true ∧ own = O ∧ meth.name = "<init>")) (wi : (Jvm.Cond.instantiable C kk).before a0 Z = true) (hty : parseFieldDescriptor d = some ty) (hd : decode c.code pc = .ok (.putfield index, 3)) (k : ∀ T' h', Stand p l e R s m args below meth c T' (locs ++ [⟨a, Jvm.RoadKit.slotOf Z O n d⟩]) cells slots → T'.heap = h' → Wr h h' a (Jvm.RoadKit.slotOf Z O n d) v → aa0 p e below P (T'.setTop (mkF m (pc + 3) Ls (S)))) (hn : narrow ty v = v := by rfl) (hf : fits ty v = true := by rfl) : aa0 p e below P (T.setTop (mkF m (pc) Ls (v :: .ref a :: S))) := by
  obtain ⟨T', h', X', e', W, st⟩ := putF X hx hZ hown w via eT F Ex L wi hty hn hf (g := mkF m pc Ls (v :: .ref a :: S)) rfl rfl hd
  exact an1 st (k T' h' X' e' W)
end OwnZ
section OwnZC
variable {p : Program} {l : Launch} {e : Env} {R : Room} {s : State} {m : MethodId} {args : Array Value} {below : List Frame} {meth : Method} {c : Code} {T : State} {locs : List Loc} {cells slots : Nat} {Z : State} {a0 : Array Value} {h : Heap} {P : Outcome → State → Prop} {pc : Nat} {Ls : Array Slot} {S : List Value}
theorem as5 (X : Stand p l e R s m args below meth c T locs cells slots) (hx : p.tables.exec = Jvm.exec) (hZ : Z.Warmed39 s.vm) {own : String} {index : Nat} {y : MethodName} {bytes : ByteArray} {maxL : Nat} {rt : Option FieldType} {rm : Room} {as' : Array Value} {Q : Option Value → Heap → List Loc → Prop}
    (hown : s.vm.findClass own = some m.cls) (w1 : (Jvm.Cond.methodLink own index y).before a0 Z = true) (w2 : (Jvm.Cond.static y).before a0 Z = true) (w3 : (Jvm.Cond.initialized y.cls).before a0 Z = true) (w4 : (Jvm.Cond.code y bytes maxL rt).before a0 Z = true) 
    (hM : ab3 l Z y bytes maxL rt [] rm as' h Q) (W : Nat) (eT : T.heap = h) {nl : Nat} (hml : c.maxLocals = nl) {argsL rest stk : List Value} (hlen : ∀ sig, parseMethodDescriptor y.desc = some sig → argsL.length = sig.parameters.length) (hdg : decode c.code pc = .ok (.invokestatic index, 3)) (k : ∀ v T' L, Stand p l e R s m args below meth c T' (locs ++ L) (cells + rm.cells) (slots + rm.slots) → Q v T'.heap L → aa0 p e below P (T'.setTop (mkF m (pc + 3) Ls (v.toList ++ rest)))) (hy : y.cls ≠ "java/lang/invoke/MethodHandle" ∧ y.cls ≠ "java/lang/invoke/VarHandle" := by decide) (hf : rm.frames + 1 ≤ R.frames := by decide) (hl : W + (maxL + 11) + rm.locals ≤ R.locals := by decide) (hc : cells + rm.cells ≤ R.cells := by decide) (hs : slots + rm.slots ≤ R.slots := by decide) (ha : (argsL).toArray = as' := by rfl) (hstack : stk = argsL.reverse ++ rest := by rfl) (hW : (rest.map fun v => v.category).sum ≤ W := by exact Nat.le_of_eq rfl) (hn' : Ls.size = nl := by rfl) : aa0 p e below P (T.setTop (mkF m (pc) Ls (stk))) :=
  dz7 X hx hZ hown w1 w2 w3 w4 hy hM W hf hl eT hc hs (g := mkF m pc Ls stk) rfl (by rw [hml]; exact hn') ha hlen hstack (by show 2 * 0 + _ ≤ _; rw [Nat.mul_zero, Nat.zero_add]; exact hW) hdg k
theorem cb0 (X : Stand p l e R s m args below meth c T locs cells slots) (hx : p.tables.exec = Jvm.exec) (hZ : Z.Warmed39 s.vm) {own : String} {index : Nat} {y : MethodName} {bytes : ByteArray} {maxL : Nat} {rm : Room} {as' : Array Value} {Q : Option Value → Heap → List Loc → Prop}
    (hown : s.vm.findClass own = some m.cls) (w1 : (Jvm.Cond.methodLink own index y).before a0 Z = true) (w2 : (Jvm.Cond.instanceMethod y).before a0 Z = true) (w3 : (Jvm.Cond.initialized y.cls).before a0 Z = true) (w4 : (Jvm.Cond.code y bytes maxL none).before a0 Z = true) 
    (hM : ab3 l Z y bytes maxL none [] rm as' h Q) (W : Nat) (eT : T.heap = h) {nl : Nat} (hml : c.maxLocals = nl) {a : Addr} {argsL rest stk : List Value} (hlen : ∀ sig, parseMethodDescriptor y.desc = some sig → argsL.length = sig.parameters.length) (hdg : decode c.code pc = .ok (.invokespecial index, 3)) (k : ∀ v T' L, Stand p l e R s m args below meth c T' (locs ++ L) (cells + rm.cells) (slots + rm.slots) → Q v T'.heap L → aa0 p e below P (T'.setTop (mkF m (pc + 3) Ls (v.toList ++ rest)))) (hy : y.cls ≠ "java/lang/invoke/MethodHandle" ∧ y.cls ≠ "java/lang/invoke/VarHandle" := by decide) (hy1 : y.name = "<init>" := by rfl) (hf : rm.frames + 1 ≤ R.frames := by decide) (hl : W + (maxL + 11) + rm.locals ≤ R.locals := by decide) (hc : cells + rm.cells ≤ R.cells := by decide) (hs : slots + rm.slots ≤ R.slots := by decide) (ha : (Value.ref a :: argsL).toArray = as' := by rfl) (hstack : stk = argsL.reverse ++ .ref a :: rest := by rfl) (hW : (rest.map fun v => v.category).sum ≤ W := by exact Nat.le_of_eq rfl) (hn' : Ls.size = nl := by rfl) : aa0 p e below P (T.setTop (mkF m (pc) Ls (stk))) :=
  d8 X hx hZ hy1 hown w1 w2 w3 w4 hy hM W hf hl eT hc hs (g := mkF m pc Ls stk) rfl (by rw [hml]; exact hn') ha hlen hstack (by show 2 * 0 + _ ≤ _; rw [Nat.mul_zero, Nat.zero_add]; exact hW) hdg k
theorem az1 (X : Stand p l e R s m args below meth c T locs cells slots) (hx : p.tables.exec = Jvm.exec) (hZ : Z.Warmed39 s.vm) {own C : String} {index : Nat} {y z : MethodName} {bytes : ByteArray} {maxL : Nat} {rt : Option FieldType} {rm : Room} {as' : Array Value} {Q : Option Value → Heap → List Loc → Prop}
    (hown : s.vm.findClass own = some m.cls) (w1 : (Jvm.Cond.methodLink own index y).before a0 Z = true) (w2 : (Jvm.Cond.declares y).before a0 Z = true) (hnf : NotFace s y) (w5 : (Jvm.Cond.selects C y z).before a0 Z = true) (w6 : (Jvm.Cond.instanceMethod z).before a0 Z = true) (w3 : (Jvm.Cond.initialized z.cls).before a0 Z = true) (w4 : (Jvm.Cond.code z bytes maxL rt).before a0 Z = true) 
    {a : Addr} (E : Exa Z h a C) (hM : ab3 l Z z bytes maxL rt [] rm as' h Q) (W : Nat) (eT : T.heap = h) {nl : Nat} (hml : c.maxLocals = nl) {argsL rest stk : List Value} (hlen : ∀ sig, parseMethodDescriptor y.desc = some sig → argsL.length = sig.parameters.length) (hdg : decode c.code pc = .ok (.invokevirtual index, 3)) (k : ∀ v T' L, Stand p l e R s m args below meth c T' (locs ++ L) (cells + rm.cells) (slots + rm.slots) → Q v T'.heap L → aa0 p e below P (T'.setTop (mkF m (pc + 3) Ls (v.toList ++ rest)))) (hy : y.cls ≠ "java/lang/invoke/MethodHandle" ∧ y.cls ≠ "java/lang/invoke/VarHandle" := by decide) (hf : rm.frames + 1 ≤ R.frames := by decide) (hl : W + (maxL + 11) + rm.locals ≤ R.locals := by decide) (hc : cells + rm.cells ≤ R.cells := by decide) (hs : slots + rm.slots ≤ R.slots := by decide) (ha : (Value.ref a :: argsL).toArray = as' := by rfl) (hstack : stk = argsL.reverse ++ .ref a :: rest := by rfl) (hW : (rest.map fun v => v.category).sum ≤ W := by exact Nat.le_of_eq rfl) (hn' : Ls.size = nl := by rfl) : aa0 p e below P (T.setTop (mkF m (pc) Ls (stk))) :=
  da8 X hx hZ hown w1 w2 hnf w5 w6 w3 w4 hy E hM W hf hl eT hc hs (g := mkF m pc Ls stk) rfl (by rw [hml]; exact hn') ha hlen hstack (by show 2 * 0 + _ ≤ _; rw [Nat.mul_zero, Nat.zero_add]; exact hW) hdg k
end OwnZC
section
variable {pc : Nat} {Ls : Array Slot} {p : Program} {l : Launch} {e : Env} {R : Room} {s : State} {m : MethodId} {args : Array Value} {below : List Frame} {meth : Method} {c : Code} {T : State} {locs : List Loc} {cells slots : Nat} {Z : State} {a0 : Array Value} {h h' : Heap} {P : Outcome → State → Prop} {a b : Addr} {xs ys : List Int32}
theorem ew7 (X : Stand p l e R s m args below meth c T locs cells slots) (hx : p.tables.exec = Jvm.exec) (hZ : Z.Warmed39 s.vm) (eT : T.heap = h) (F : ah1 Z h a xs) {z : Int32} (hz : Int32.ofNat xs.length = z) {rest : List Value} (hd : decode c.code pc = .ok (.arraylength, 1))
    (k : aa0 p e below P (T.setTop (mkF m (pc + 1) Ls (.int z :: rest)))) : aa0 p e below P (T.setTop (mkF m pc Ls (.ref a :: rest))) := by subst hz; exact ew1 X hx hZ eT F (g := mkF m pc Ls (.ref a :: rest)) rfl rfl hd k
theorem cb4 (X : Stand p l e R s m args below meth c T locs cells slots) (hx : p.tables.exec = Jvm.exec) (hZ : Z.Warmed39 s.vm) (eT : T.heap = h) (F : ah1 Z h a xs) {j v : Int32} {i : Nat} (hj : j.toInt = (i : Int)) (hv : xs[i]? = some v) {rest : List Value} (hd : decode c.code pc = .ok (.iaload, 1))
    (k : aa0 p e below P (T.setTop (mkF m (pc + 1) Ls (.int v :: rest)))) : aa0 p e below P (T.setTop (mkF m pc Ls (.int j :: .ref a :: rest))) := dc5 X hx hZ eT F hj hv (g := mkF m pc Ls (.int j :: .ref a :: rest)) rfl rfl hd k
theorem bh0 (X : Stand p l e R s m args below meth c T locs cells slots) (hx : p.tables.exec = Jvm.exec) (hZ : Z.Warmed39 s.vm) (eT : T.heap = h) (F : ah1 Z h a xs) {j v : Int32} {i : Nat} (hj : j.toInt = (i : Int)) (hl : i < xs.length) {rest : List Value} (hd : decode c.code pc = .ok (.iastore, 1))
    (k : ∀ T' h', Stand p l e R s m args below meth c T' (locs ++ [⟨a, j.toNatClampNeg⟩]) cells slots → T'.heap = h' → Wr h h' a j.toNatClampNeg (.int v) → ah1 Z h' a (xs.set i v) → aa0 p e below P (T'.setTop (mkF m (pc + 1) Ls (rest)))) : aa0 p e below P (T.setTop (mkF m pc Ls (.int v :: .int j :: .ref a :: rest))) := dn1 X hx hZ eT F hj hl (g := mkF m pc Ls (.int v :: .int j :: .ref a :: rest)) rfl rfl hd k
theorem de8 (X : Stand p l e R s m args below meth c T locs cells slots) (hx : p.tables.exec = Jvm.exec) (hZ : Z.Warmed39 s.vm) (w : (Jvm.Cond.arrayClass .int).before a0 Z = true) (eT : T.heap = h) {j : Int32} {n : Nat} (hj : j.toInt = (n : Int)) (cap : Nat) (hcap : n ≤ cap) (hb : cap * 8 ≤ 536870912) (hc : cells + 1 ≤ R.cells) (hl : slots + cap ≤ R.slots) {rest : List Value} (hd : decode c.code pc = .ok (.newarray .int, 2))
    (k : ∀ T' h', Stand p l e R s m args below meth c T' locs (cells + 1) (slots + cap) → T'.heap = h' → Ext h h' → ah1 Z h' h.size (List.replicate n 0) → aa0 p e below P (T'.setTop (mkF m (pc + 2) Ls (.ref h.size :: rest)))) : aa0 p e below P (T.setTop (mkF m pc Ls (.int j :: rest))) := ex1 X hx hZ w eT hj cap hcap hb hc hl (g := mkF m pc Ls (.int j :: rest)) rfl rfl hd k
end
section
variable {pc : Nat} {Ls : Array Slot} {p : Program} {l : Launch} {e : Env} {R : Room} {s : State} {m : MethodId} {args : Array Value} {below : List Frame} {meth : Method} {c : Code} {T : State} {locs : List Loc} {cells slots : Nat} {Z : State} {a0 : Array Value} {h h' : Heap} {P : Outcome → State → Prop} {a b : Addr} {xs ys : List Int32}
theorem cq3 (X : Stand p l e R s m args below meth c T locs cells slots) (hx : p.tables.exec = Jvm.exec) (hZ : Z.Warmed39 s.vm) (eT : T.heap = h) (F : ax2 Z h a xs) {z : Int32} (hz : Int32.ofNat xs.length = z) {rest : List Value} (hd : decode c.code pc = .ok (.arraylength, 1))
    (k : aa0 p e below P (T.setTop (mkF m (pc + 1) Ls (.int z :: rest)))) : aa0 p e below P (T.setTop (mkF m pc Ls (.ref a :: rest))) := by subst hz; exact dc8 X hx hZ eT F (g := mkF m pc Ls (.ref a :: rest)) rfl rfl hd k
theorem cc7 (X : Stand p l e R s m args below meth c T locs cells slots) (hx : p.tables.exec = Jvm.exec) (hZ : Z.Warmed39 s.vm) (eT : T.heap = h) (F : ax2 Z h a xs) {j : Int32} {v : Int32} {i : Nat} (hj : j.toInt = (i : Int)) (hv : xs[i]? = some v) {rest : List Value} (hd : decode c.code pc = .ok (.baload, 1))
    (k : aa0 p e below P (T.setTop (mkF m (pc + 1) Ls (.int v :: rest)))) : aa0 p e below P (T.setTop (mkF m pc Ls (.int j :: .ref a :: rest))) := dd5 X hx hZ eT F hj hv (g := mkF m pc Ls (.int j :: .ref a :: rest)) rfl rfl hd k
theorem df8 (X : Stand p l e R s m args below meth c T locs cells slots) (hx : p.tables.exec = Jvm.exec) (hZ : Z.Warmed39 s.vm) (eT : T.heap = h) (F : ax2 Z h a xs) {j : Int32} {v : Int32} {i : Nat} (hj : j.toInt = (i : Int)) (hl : i < xs.length) {rest : List Value} (hd : decode c.code pc = .ok (.bastore, 1))
    (k : ∀ T' h', Stand p l e R s m args below meth c T' (locs ++ [⟨a, j.toNatClampNeg⟩]) cells slots → T'.heap = h' → Wr h h' a j.toNatClampNeg (.int (nar .byte v)) → ax2 Z h' a (xs.set i (nar .byte v)) → aa0 p e below P (T'.setTop (mkF m (pc + 1) Ls (rest)))) : aa0 p e below P (T.setTop (mkF m pc Ls (.int v :: .int j :: .ref a :: rest))) := do1 X hx hZ eT F hj hl (g := mkF m pc Ls (.int v :: .int j :: .ref a :: rest)) rfl rfl hd k
end
section
variable {pc : Nat} {Ls : Array Slot} {p : Program} {l : Launch} {e : Env} {R : Room} {s : State} {m : MethodId} {args : Array Value} {below : List Frame} {meth : Method} {c : Code} {T : State} {locs : List Loc} {cells slots : Nat} {Z : State} {a0 : Array Value} {h h' : Heap} {P : Outcome → State → Prop} {a b : Addr} {xs ys : List Value} {C : String}
theorem ao9 (X : Stand p l e R s m args below meth c T locs cells slots) (hx : p.tables.exec = Jvm.exec) (hZ : Z.Warmed39 s.vm) (eT : T.heap = h) (F : ac2 C Z h a xs) {z : Int32} (hz : Int32.ofNat xs.length = z) {rest : List Value} (hd : decode c.code pc = .ok (.arraylength, 1))
    (k : aa0 p e below P (T.setTop (mkF m (pc + 1) Ls (.int z :: rest)))) : aa0 p e below P (T.setTop (mkF m pc Ls (.ref a :: rest))) := by subst hz; exact dd8 X hx hZ eT F (g := mkF m pc Ls (.ref a :: rest)) rfl rfl hd k
theorem ay2 (X : Stand p l e R s m args below meth c T locs cells slots) (hx : p.tables.exec = Jvm.exec) (hZ : Z.Warmed39 s.vm) (eT : T.heap = h) (F : ac2 C Z h a xs) {j : Int32} {v : Value} {i : Nat} (hj : j.toInt = (i : Int)) (hv : xs[i]? = some v) {rest : List Value} (hd : decode c.code pc = .ok (.aaload, 1))
    (k : aa0 p e below P (T.setTop (mkF m (pc + 1) Ls (v :: rest)))) : aa0 p e below P (T.setTop (mkF m pc Ls (.int j :: .ref a :: rest))) := de5 X hx hZ eT F hj hv (g := mkF m pc Ls (.int j :: .ref a :: rest)) rfl rfl hd k
theorem bf8 (X : Stand p l e R s m args below meth c T locs cells slots) (hx : p.tables.exec = Jvm.exec) (hZ : Z.Warmed39 s.vm) (eT : T.heap = h) (F : ac2 C Z h a xs) {j : Int32} {v : Value} {i : Nat} (hj : j.toInt = (i : Int)) (hl : i < xs.length) (hv : v = .null ∨ ∃ y, v = .ref y ∧ Ins Z h y C true) {rest : List Value} (hd : decode c.code pc = .ok (.aastore, 1))
    (k : ∀ T' h', Stand p l e R s m args below meth c T' (locs ++ [⟨a, j.toNatClampNeg⟩]) cells slots → T'.heap = h' → Wr h h' a j.toNatClampNeg v → ac2 C Z h' a (xs.set i v) → aa0 p e below P (T'.setTop (mkF m (pc + 1) Ls (rest)))) : aa0 p e below P (T.setTop (mkF m pc Ls (v :: .int j :: .ref a :: rest))) := dp1 X hx hZ eT F hj hl hv (g := mkF m pc Ls (v :: .int j :: .ref a :: rest)) rfl rfl hd k
theorem dg8 (X : Stand p l e R s m args below meth c T locs cells slots) (hx : p.tables.exec = Jvm.exec) (hZ : Z.Warmed39 s.vm) {own : String} {index : Nat} (hown : s.vm.findClass own = some m.cls) (w1 : (Jvm.Cond.classLink own index C).before a0 Z = true) (w2 : (Jvm.Cond.arrayOver (.object C)).before a0 Z = true) (eT : T.heap = h) {j : Int32} {n : Nat} (hj : j.toInt = (n : Int)) (cap : Nat) (hcap : n ≤ cap) (hb : cap * 8 ≤ 536870912) (hc : cells + 1 ≤ R.cells) (hl : slots + cap ≤ R.slots) {rest : List Value} (hd : decode c.code pc = .ok (.anewarray index, 3))
    (k : ∀ T' h', Stand p l e R s m args below meth c T' locs (cells + 1) (slots + cap) → T'.heap = h' → Ext h h' → ac2 C Z h' h.size (List.replicate n .null) → aa0 p e below P (T'.setTop (mkF m (pc + 3) Ls (.ref h.size :: rest)))) : aa0 p e below P (T.setTop (mkF m pc Ls (.int j :: rest))) := ea2 X hx hZ hown w1 w2 eT hj cap hcap hb hc hl (g := mkF m pc Ls (.int j :: rest)) rfl rfl hd k
end
theorem dh8 : decode jdk_43_method_3_code 0 = .ok (.iload_n 0, 1) := by decide +kernel
theorem di8 : decode jdk_43_method_3_code 1 = .ok (.sipush 255, 3) := by decide +kernel
theorem dj8 : decode jdk_43_method_3_code 4 = .ok (.if_icmp .gt 7, 3) := by decide +kernel
theorem dk8 : decode jdk_43_method_3_code 7 = .ok (.iconst 1, 1) := by decide +kernel
theorem dl8 : decode jdk_43_method_3_code 8 = .ok (.goto 4, 3) := by decide +kernel
theorem dg5 : decode jdk_43_method_3_code 12 = .ok (.ireturn, 1) := by decide +kernel
theorem dm8 (m : MethodId) (p0 : Int32) : entryFrame m #[(.int p0)] 1 = mkF m 0 #[.val (.int p0)] [] := by first | (simp [entryFrame, mkF, argsToLocals, Value.category]; done) | rfl
theorem ax7 : plainName "java/lang/StringLatin1" = true := by first | (simp [plainName, overriddenIn]; done) | decide +kernel
set_option maxRecDepth 65536 in
set_option maxHeartbeats 40000000 in
theorem ec2 (l : Launch) (Z : State) (a0 : Array Value) (hw : ∀ d ∈ tables_1, d.before a0 Z = true) (ws : List Jvm.Cond) (p0 : Int32)  (h0 : Heap) (n0 : Nat) (Z0 : n0 ≤ h0.size) (hp0 : ¬ ((255 : Int32) < p0)) :
    ab3 l Z (⟨"java/lang/StringLatin1", "canEncode", "(C)Z"⟩ : MethodName) jdk_43_method_3_code 1 (some .boolean) ws ({ frames := 0, cells := 0, slots := 0, locals := 0 } : Room) #[(.int p0)] h0 (fun (v : Option Value) (h : Heap) (L : List Loc) => v = some (.int (1 : Int32)) ∧ Fr n0 L ∧ h = h0) := by
  refine al3 (plainFor_of_name ax7) ?_
  intro p e s m below meth c s₁ P hx hby hml hrt hlk hown hnm hZ X0 e0 hP
  have N0 := Fr.nil n0
  have K0 := Keep.refl h0 []
  have hml' : c.maxLocals = 1 := hml
  refine ac4 (dm8 m p0) ?_
  show aa0 p e below P (s₁.setTop (mkF m 0 #[.val (.int p0)] []))
  refine ae1 X0 hx (hb hby dh8) rfl ?_
  refine be8 X0 hx (hb hby di8) (z := (255 : Int32)) rfl ?_
  refine a4 X0 hx (hb hby dj8) (flt hp0).2.2.1 ?_
  refine az0 X0 hx (hb hby dk8) (z := (1 : Int32)) rfl ?_
  refine ao4 X0 hx (pc' := 12) (hb hby dl8) ?_
  exact bd1 X0 hx hlk hP (t := .boolean) (by simp) hrt (hb hby dg5) (by decide) (by decide) ⟨rfl, N0, e0⟩
theorem dn8 : decode jdk_43_method_46_code 0 = .ok (.iconst 1, 1) := by decide +kernel
theorem do8 : decode jdk_43_method_46_code 1 = .ok (.newarray .byte, 2) := by decide +kernel
theorem dp8 : decode jdk_43_method_46_code 3 = .ok (.dup, 1) := by decide +kernel
theorem dq8 : decode jdk_43_method_46_code 4 = .ok (.iconst 0, 1) := by decide +kernel
theorem dr8 : decode jdk_43_method_46_code 5 = .ok (.iload_n 0, 1) := by decide +kernel
theorem ds8 : decode jdk_43_method_46_code 6 = .ok (.i2b, 1) := by decide +kernel
theorem dt8 : decode jdk_43_method_46_code 7 = .ok (.bastore, 1) := by decide +kernel
theorem du8 : decode jdk_43_method_46_code 8 = .ok (.areturn, 1) := by decide +kernel
theorem ed2 (m : MethodId) (p0 : Int32) : entryFrame m #[(.int p0)] 1 = mkF m 0 #[.val (.int p0)] [] := by first | (simp [entryFrame, mkF, argsToLocals, Value.category]; done) | rfl
set_option maxRecDepth 65536 in
set_option maxHeartbeats 40000000 in
theorem ef4 (l : Launch) (Z : State) (a0 : Array Value) (hw : ∀ d ∈ tables_1, d.before a0 Z = true) (ws : List Jvm.Cond) (p0 : Int32)  (h0 : Heap) (n0 : Nat) (Z0 : n0 ≤ h0.size)  :
    ab3 l Z (⟨"java/lang/StringLatin1", "toBytes", "(C)[B"⟩ : MethodName) jdk_43_method_46_code 1 (some (.array .byte)) ws ({ frames := 0, cells := 1, slots := 1, locals := 0 } : Room) #[(.int p0)] h0 (fun (v : Option Value) (h : Heap) (L : List Loc) => ∃ (b1 : Addr), v = some (.ref b1) ∧ Fr n0 L ∧ Keep h0 h [] ∧ h0.size ≤ b1 ∧ n0 ≤ b1 ∧ ax2 Z h b1 [(nar .byte (p0.toInt8.toInt32))]) := by
  refine al3 (plainFor_of_name ax7) ?_
  intro p e s m below meth c s₁ P hx hby hml hrt hlk hown hnm hZ X0 e0 hP
  have N0 := Fr.nil n0
  have K0 := Keep.refl h0 []
  have hml' : c.maxLocals = 1 := hml
  refine ac4 (ed2 m p0) ?_
  show aa0 p e below P (s₁.setTop (mkF m 0 #[.val (.int p0)] []))
  refine az0 X0 hx (hb hby dn8) (z := (1 : Int32)) rfl ?_
  refine ey1 X0 hx hZ (z_w hw 14 rfl) e0 (j := (1 : Int32)) (n := 1) (by decide) 1 (by decide) (by decide) (by decide) (by decide) (g := (mkF m 1 #[.val (.int p0)] [(.int (1 : Int32))])) rfl rfl (hb hby do8) (fun T1 h1 X1 e1 E1 B1 => ?_)
  obtain ⟨b1, g1⟩ : ∃ z, z = h0.size := ⟨_, rfl⟩
  rw [← g1] at B1 ⊢
  have dv8 : n0 ≤ b1 := Nat.le_trans (Nat.le_trans Z0 K0.1) (Nat.le_of_eq g1.symm)
  have eb4 : h0.size ≤ b1 := Nat.le_trans K0.1 (Nat.le_of_eq g1.symm)
  have K1 := Keep.ext K0 E1
  have A1 : ax2 Z h1 b1 [(0 : Int32)] := B1
  show aa0 p e below P (T1.setTop (mkF m 3 #[.val (.int p0)] [(.ref b1)]))
  refine bi0 X1 hx (hb hby dp8) rfl ?_
  refine az0 X1 hx (hb hby dq8) (z := (0 : Int32)) rfl ?_
  refine ae1 X1 hx (hb hby dr8) rfl ?_
  refine ea6 X1 hx (hb hby ds8) (z := (p0.toInt8.toInt32)) rfl ?_
  refine df8 X1 hx hZ e1 A1 (j := (0 : Int32)) (v := (p0.toInt8.toInt32)) (i := 0) (by decide) (by show (0 : Nat) < 1; decide) (hb hby dt8) (fun T2 h2 X2 e2 W2 B2 => ?_)
  have A2 : ax2 Z h2 b1 [(nar .byte (p0.toInt8.toInt32))] := B2
  have N2 := Fr.snoc X2 N0 dv8
  have K2 := Keep.wr K1 W2 (Or.inr eb4)
  have hfin : ((fun (v : Option Value) (h : Heap) (L : List Loc) => ∃ (b1 : Addr), v = some (.ref b1) ∧ Fr n0 L ∧ Keep h0 h [] ∧ h0.size ≤ b1 ∧ n0 ≤ b1 ∧ ax2 Z h b1 [(nar .byte (p0.toInt8.toInt32))])) (some (.ref b1)) h2 _ := ⟨b1, rfl, N2, K2, eb4, dv8, A2⟩
  refine dv0 X2 hx hlk hP rfl rfl hrt (hb hby du8) (by decide) (by decide) ?_
  rw [e2]; exact hfin
theorem dw8 : decode jdk_42_method_151_code 0 = .ok (.aload_n 0, 1) := by decide +kernel
theorem dx8 : decode jdk_42_method_151_code 1 = .ok (.invokespecial 1, 3) := by decide +kernel
theorem dy8 : decode jdk_42_method_151_code 4 = .ok (.aload_n 0, 1) := by decide +kernel
theorem dz8 : decode jdk_42_method_151_code 5 = .ok (.aload_n 1, 1) := by decide +kernel
theorem d9 : decode jdk_42_method_151_code 6 = .ok (.putfield 9, 3) := by decide +kernel
theorem da9 : decode jdk_42_method_151_code 9 = .ok (.aload_n 0, 1) := by decide +kernel
theorem dh5 : decode jdk_42_method_151_code 10 = .ok (.iload_n 2, 1) := by decide +kernel
theorem di5 : decode jdk_42_method_151_code 11 = .ok (.putfield 15, 3) := by decide +kernel
theorem dj5 : decode jdk_42_method_151_code 14 = .ok (.return_, 1) := by decide +kernel
theorem ee2 (m : MethodId) (o0 : Addr) (o1 : Addr) : entryFrame m #[(.ref o0), (.ref o1), (.int (0 : Int32))] 3 = mkF m 0 #[.val (.ref o0), .val (.ref o1), .val (.int (0 : Int32))] [] := by first | (simp [entryFrame, mkF, argsToLocals, Value.category]; done) | rfl
theorem ac7 : plainName z_s2 = true := by first | (simp [plainName, overriddenIn]; done) | decide +kernel
set_option maxRecDepth 65536 in
set_option maxHeartbeats 40000000 in
theorem eg4 (l : Launch) (Z : State) (a0 : Array Value) (hw : ∀ d ∈ tables_1, d.before a0 Z = true) (ws : List Jvm.Cond) (o0 : Addr) (o1 : Addr)  (h0 : Heap) (n0 : Nat) (Z0 : n0 ≤ h0.size) (E_o0 : Exa Z h0 o0 z_s2) (bk2 : Fld Z h0 o0 z_s2 "value" "[B" .null) (bk1 : Fld Z h0 o0 z_s2 "coder" "B" (.int (0 : Int32))) (br4 : Fld Z h0 o0 z_s2 "hash" "I" (.int (0 : Int32))) (ax8 : Fld Z h0 o0 z_s2 "hashIsZero" "Z" (.int (0 : Int32))) (ah2 : n0 ≤ o0) :
    ab3 l Z (⟨z_s2, "<init>", "([BB)V"⟩ : MethodName) jdk_42_method_151_code 3 none ws ({ frames := 1, cells := 0, slots := 0, locals := 12 } : Room) #[(.ref o0), (.ref o1), (.int (0 : Int32))] h0 (fun (v : Option Value) (h : Heap) (L : List Loc) => v = none ∧ Fr n0 L ∧ Keep h0 h [o0] ∧ Exa Z h o0 z_s2 ∧ Fld Z h o0 z_s2 "value" "[B" (.ref o1) ∧ Fld Z h o0 z_s2 "coder" "B" (.int (nar .byte (0 : Int32))) ∧ Fld Z h o0 z_s2 "hash" "I" (.int (0 : Int32)) ∧ Fld Z h o0 z_s2 "hashIsZero" "Z" (.int (0 : Int32))) := by
  refine al3 (plainFor_of_name ac7) ?_
  intro p e s m below meth c s₁ P hx hby hml hrt hlk hown hnm hZ X0 e0 hP
  have N0 := Fr.nil n0
  have K0 := Keep.refl h0 [o0]
  have hml' : c.maxLocals = 3 := hml
  refine ac4 (ee2 m o0 o1) ?_
  show aa0 p e below P (s₁.setTop (mkF m 0 #[.val (.ref o0), .val (.ref o1), .val (.int (0 : Int32))] []))
  refine ae0 X0 hx (hb hby dw8) rfl rfl ?_
  obtain ⟨T1, X1, e1, st1⟩ := initO X0 hx hZ hown (z_w hw 19 rfl) (z_w hw 20 rfl) (z_w hw 21 rfl) e0 (g := (mkF m 1 #[.val (.ref o0), .val (.ref o1), .val (.int (0 : Int32))] [(.ref o0)])) rfl (by rw [hml']; rfl) rfl (hb hby dx8) (by decide) (W := 0) (by show 2 * 0 + _ ≤ _; exact Nat.le_of_eq rfl) (by decide)
  refine an1 (fun _ => st1 _) ?_
  show aa0 p e below P (T1.setTop (mkF m 4 #[.val (.ref o0), .val (.ref o1), .val (.int (0 : Int32))] []))
  refine ae0 X1 hx (hb hby dy8) rfl rfl ?_
  refine ae0 X1 hx (hb hby dz8) rfl rfl ?_
  refine am4 X1 hx hZ hown (host := "") (Or.inl (z_w hw 22 rfl)) Via.refl e1 bk2 E_o0 (Or.inr ⟨(z_w hw 23 rfl), rfl, hnm⟩) (z_w hw 10 rfl) (ty := (.array .byte)) (by decide) (hb hby d9) (fun T2 h2 X2 e2 W2 => ?_)
  have N2 := Fr.snoc X2 N0 ah2
  have K2 := Keep.wr K0 W2 (Or.inl (List.mem_of_getElem? (i := 0) rfl))
  have F2 := bk2.same W2
  refine ae0 X2 hx (hb hby da9) rfl rfl ?_
  refine ae1 X2 hx (hb hby dh5) rfl ?_
  have G3 := (bk1.other W2 (Or.inr (slot_ne (Or.inr (z_w hw 25 rfl)) (Or.inr (z_w hw 23 rfl)) (by decide) (t := .byte) (t' := (.array .byte)) (by decide) (by decide))))
  have G4 := (E_o0.wr W2)
  obtain ⟨T5, h5, X5, e5, W5, st5⟩ := putFN X2 hx hZ hown (z_w hw 24 rfl) Via.refl e2 G3 G4 (Or.inr ⟨(z_w hw 25 rfl), rfl, hnm⟩) (z_w hw 10 rfl) (ty := .byte) (v' := (.int (nar .byte (0 : Int32)))) (by decide) rfl (fits_nar_byte _) (g := (mkF m 11 #[.val (.ref o0), .val (.ref o1), .val (.int (0 : Int32))] [(.int (0 : Int32)), (.ref o0)])) rfl rfl (hb hby di5)
  have N5 := Fr.snoc X5 N2 ah2
  have K5 := Keep.wr K2 W5 (Or.inl (List.mem_of_getElem? (i := 0) rfl))
  have F5 := G3.same W5
  refine an1 (fun _ => st5 _) ?_
  show aa0 p e below P (T5.setTop (mkF m 14 #[.val (.ref o0), .val (.ref o1), .val (.int (0 : Int32))] []))
  have G6 := (G4.wr W5)
  have G7 := (F2.other W5 (Or.inr (slot_ne (Or.inr (z_w hw 23 rfl)) (Or.inr (z_w hw 25 rfl)) (by decide) (t := (.array .byte)) (t' := .byte) (by decide) (by decide))))
  have G8 := ((br4.other W2 (Or.inr (slot_ne (Or.inl (z_w hw 103 rfl)) (Or.inr (z_w hw 23 rfl)) (by decide) (t := .int) (t' := (.array .byte)) (by decide) (by decide)))).other W5 (Or.inr (slot_ne (Or.inl (z_w hw 103 rfl)) (Or.inr (z_w hw 25 rfl)) (by decide) (t := .int) (t' := .byte) (by decide) (by decide))))
  have G9 := ((ax8.other W2 (Or.inr (slot_ne (Or.inl (z_w hw 105 rfl)) (Or.inr (z_w hw 23 rfl)) (by decide) (t := .boolean) (t' := (.array .byte)) (by decide) (by decide)))).other W5 (Or.inr (slot_ne (Or.inl (z_w hw 105 rfl)) (Or.inr (z_w hw 25 rfl)) (by decide) (t := .boolean) (t' := .byte) (by decide) (by decide))))
  have hfin : ((fun (v : Option Value) (h : Heap) (L : List Loc) => v = none ∧ Fr n0 L ∧ Keep h0 h [o0] ∧ Exa Z h o0 z_s2 ∧ Fld Z h o0 z_s2 "value" "[B" (.ref o1) ∧ Fld Z h o0 z_s2 "coder" "B" (.int (nar .byte (0 : Int32))) ∧ Fld Z h o0 z_s2 "hash" "I" (.int (0 : Int32)) ∧ Fld Z h o0 z_s2 "hashIsZero" "Z" (.int (0 : Int32)))) none h5 _ := ⟨rfl, N5, K5, G6, G7, F5, G8, G9⟩
  refine bj0 X5 hx hlk hP hrt (hb hby dj5) (by decide) (by decide) ?_
  rw [e5]; exact hfin
theorem db9 : decode jdk_42_method_139_code 0 = .ok (.getstatic 38, 3) := by decide +kernel
theorem dc9 : decode jdk_42_method_139_code 3 = .ok (.ifCond .eq 23, 3) := by decide +kernel
theorem dd9 : decode jdk_42_method_139_code 6 = .ok (.iload_n 0, 1) := by decide +kernel
theorem de9 : decode jdk_42_method_139_code 7 = .ok (.invokestatic 1015, 3) := by decide +kernel
theorem c9 : parseMethodDescriptor "(C)Z" = some ⟨[.char], some .boolean⟩ := by decide +kernel
theorem dk5 : decode jdk_42_method_139_code 10 = .ok (.ifCond .eq 16, 3) := by decide +kernel
theorem dl5 : decode jdk_42_method_139_code 13 = .ok (.new 10, 3) := by decide +kernel
theorem dm5 : decode jdk_42_method_139_code 16 = .ok (.dup, 1) := by decide +kernel
theorem dn5 : decode jdk_42_method_139_code 17 = .ok (.iload_n 0, 1) := by decide +kernel
theorem do5 : decode jdk_42_method_139_code 18 = .ok (.invokestatic 1018, 3) := by decide +kernel
theorem cr7 : parseMethodDescriptor "(C)[B" = some ⟨[.char], some (.array .byte)⟩ := by decide +kernel
theorem dp5 : decode jdk_42_method_139_code 21 = .ok (.iconst 0, 1) := by decide +kernel
theorem dq5 : decode jdk_42_method_139_code 22 = .ok (.invokespecial 209, 3) := by decide +kernel
theorem cs7 : parseMethodDescriptor "([BB)V" = some ⟨[(.array .byte), .byte], none⟩ := by decide +kernel
theorem dr5 : decode jdk_42_method_139_code 25 = .ok (.areturn, 1) := by decide +kernel
theorem ef2 (m : MethodId) (p0 : Int32) : entryFrame m #[(.int p0)] 1 = mkF m 0 #[.val (.int p0)] [] := by first | (simp [entryFrame, mkF, argsToLocals, Value.category]; done) | rfl
set_option maxRecDepth 65536 in
set_option maxHeartbeats 40000000 in
theorem bd5 (l : Launch) (Z : State) (a0 : Array Value) (hw : ∀ d ∈ tables_1, d.before a0 Z = true) (ws : List Jvm.Cond) (p0 : Int32) (ab0 : Int32) (h0 : Heap) (n0 : Nat) (Z0 : n0 ≤ h0.size) (ar0 : Sta Z h0 z_s2 "COMPACT_STRINGS" "Z" (.int ab0)) (hnz : ¬ (ab0 = (0 : Int32))) (hp0 : ¬ ((255 : Int32) < p0)) :
    ab3 l Z (⟨z_s2, "valueOf", "(C)Ljava/lang/String;"⟩ : MethodName) jdk_42_method_139_code 1 (some (.object z_s2)) ws ({ frames := 2, cells := 2, slots := 5, locals := 27 } : Room) #[(.int p0)] h0 (fun (v : Option Value) (h : Heap) (L : List Loc) => ∃ (b3 : Addr) (b1_4 : Addr), v = some (.ref b3) ∧ Fr n0 L ∧ Keep h0 h [] ∧ h0.size ≤ b3 ∧ n0 ≤ b3 ∧ h0.size ≤ b1_4 ∧ n0 ≤ b1_4 ∧ b3 ≠ b1_4 ∧ Exa Z h b3 z_s2 ∧ Fld Z h b3 z_s2 "value" "[B" (.ref b1_4) ∧ Fld Z h b3 z_s2 "coder" "B" (.int (nar .byte (0 : Int32))) ∧ Fld Z h b3 z_s2 "hash" "I" (.int (0 : Int32)) ∧ Fld Z h b3 z_s2 "hashIsZero" "Z" (.int (0 : Int32)) ∧ ax2 Z h b1_4 [(nar .byte (p0.toInt8.toInt32))]) := by
  refine al3 (plainFor_of_name ac7) ?_
  intro p e s m below meth c s₁ P hx hby hml hrt hlk hown hnm hZ X0 e0 hP
  have N0 := Fr.nil n0
  have K0 := Keep.refl h0 []
  have hml' : c.maxLocals = 1 := hml
  refine ac4 (ef2 m p0) ?_
  show aa0 p e below P (s₁.setTop (mkF m 0 #[.val (.int p0)] []))
  refine dw0 X0 hx hZ hown (host := "") (Or.inl (z_w hw 4 rfl)) Via.refl e0 ar0 (hb hby db9) (fun T1 X1 e1 => ?_)
  refine aq7 X1 hx (hb hby dc9) ((if0 _ _).trans (feq hnz).1) ?_
  refine ae1 X1 hx (hb hby dd9) rfl ?_
  refine as5 X1 hx hZ (y := (⟨"java/lang/StringLatin1", "canEncode", "(C)Z"⟩ : MethodName)) hown (z_w hw 5 rfl) (z_w hw 6 rfl) (z_w hw 7 rfl) (z_w hw 8 rfl) (ec2 l Z a0 hw [] p0  h0 n0 (Nat.le_trans Z0 K0.1) hp0) 0 e1 hml' (argsL := [(.int p0)]) (rest := []) (lenOf c9 rfl) (hb hby de9) (fun r2 T2 L2 X2 hQ2 => ?_)
  obtain ⟨rfl, Nq2, eq2⟩ := hQ2
  have N2 := Fr.app N0 Nq2
  show aa0 p e below P (T2.setTop (mkF m 10 #[.val (.int p0)] [(.int (1 : Int32))]))
  refine aq7 X2 hx (hb hby dk5) ((if0 _ _).trans (feq (by decide : ¬ ((1 : Int32) = (0 : Int32)))).1) ?_
  obtain ⟨T3, h3, X3, e3, E3, A3, D3, -, st3⟩ := newO X2 hx hZ hown (z_w hw 9 rfl) (z_w hw 10 rfl) (z_w hw 2 rfl) eq2 (g := (mkF m 13 #[.val (.int p0)] [])) rfl (hb hby dl5) (by decide) (by decide)
  obtain ⟨b3, g3⟩ : ∃ z, z = h0.size := ⟨_, rfl⟩
  rw [← g3] at A3 D3 st3
  have df9 : n0 ≤ b3 := Nat.le_trans (Nat.le_trans Z0 K0.1) (Nat.le_of_eq g3.symm)
  have ec4 : h0.size ≤ b3 := Nat.le_trans K0.1 (Nat.le_of_eq g3.symm)
  have K3 := Keep.ext K0 E3
  have ds5 : Fld Z h3 b3 z_s2 "value" "[B" .null := D3 (Or.inr (z_w hw 23 rfl)) (ty := (.array .byte)) (by decide)
  have dt5 : Fld Z h3 b3 z_s2 "coder" "B" (.int (0 : Int32)) := D3 (Or.inr (z_w hw 25 rfl)) (ty := .byte) (by decide)
  have dg9 : Fld Z h3 b3 z_s2 "hash" "I" (.int (0 : Int32)) := D3 (Or.inl (z_w hw 103 rfl)) (ty := .int) (by decide)
  have ct7 : Fld Z h3 b3 z_s2 "hashIsZero" "Z" (.int (0 : Int32)) := D3 (Or.inl (z_w hw 105 rfl)) (ty := .boolean) (by decide)
  refine an1 (fun _ => st3 _) ?_
  show aa0 p e below P (T3.setTop (mkF m 16 #[.val (.int p0)] [(.ref b3)]))
  refine bi0 X3 hx (hb hby dm5) rfl ?_
  refine ae1 X3 hx (hb hby dn5) rfl ?_
  refine as5 X3 hx hZ (y := (⟨"java/lang/StringLatin1", "toBytes", "(C)[B"⟩ : MethodName)) hown (z_w hw 11 rfl) (z_w hw 12 rfl) (z_w hw 7 rfl) (z_w hw 13 rfl) (ef4 l Z a0 hw [] p0  h3 n0 (Nat.le_trans Z0 K3.1) ) 2 e3 hml' (argsL := [(.int p0)]) (rest := [(.ref b3), (.ref b3)]) (lenOf cr7 rfl) (hb hby do5) (fun r4 T4 L4 X4 hQ4 => ?_)
  obtain ⟨b1_4, rfl, Nq4, Kq4, dx0, eg2, f0_4⟩ := hQ4
  have N4 := Fr.app N2 Nq4
  have ne5 := z_nc A3.lt dx0
  have eh4 := Nat.le_trans K3.1 dx0
  have K4 := Keep.trans K3 Kq4 all0
  show aa0 p e below P (T4.setTop (mkF m 21 #[.val (.int p0)] [(.ref b1_4), (.ref b3), (.ref b3)]))
  refine az0 X4 hx (hb hby dp5) (z := (0 : Int32)) rfl ?_
  have G7 := (A3.keep Kq4)
  have G8 := (ds5.keep Kq4 nin0)
  have G9 := (dt5.keep Kq4 nin0)
  have G10 := (dg9.keep Kq4 nin0)
  have G11 := (ct7.keep Kq4 nin0)
  refine cb0 X4 hx hZ (y := (⟨z_s2, "<init>", "([BB)V"⟩ : MethodName)) hown (z_w hw 15 rfl) (z_w hw 16 rfl) (z_w hw 2 rfl) (z_w hw 18 rfl) (eg4 l Z a0 hw [] b3 b1_4  T4.heap n0 (Nat.le_trans Z0 K4.1) G7 G8 G9 G10 G11 df9) 1 rfl hml' (a := b3) (argsL := [(.ref b1_4), (.int (0 : Int32))]) (rest := [(.ref b3)]) (lenOf cs7 rfl) (hb hby dq5) (fun r6 T6 L6 X6 hQ6 => ?_)
  obtain ⟨rfl, Nq6, Kq6, f0_6, f1_6, f2_6, f3_6, f4_6⟩ := hQ6
  have N6 := Fr.app N4 Nq6
  have K6 := Keep.trans K4 Kq6 (allS (Or.inr ec4) all0)
  show aa0 p e below P (T6.setTop (mkF m 25 #[.val (.int p0)] [(.ref b3)]))
  have G12 := (f0_4.keep Kq6 (ninS ne5.symm nin0))
  have hfin : ((fun (v : Option Value) (h : Heap) (L : List Loc) => ∃ (b3 : Addr) (b1_4 : Addr), v = some (.ref b3) ∧ Fr n0 L ∧ Keep h0 h [] ∧ h0.size ≤ b3 ∧ n0 ≤ b3 ∧ h0.size ≤ b1_4 ∧ n0 ≤ b1_4 ∧ b3 ≠ b1_4 ∧ Exa Z h b3 z_s2 ∧ Fld Z h b3 z_s2 "value" "[B" (.ref b1_4) ∧ Fld Z h b3 z_s2 "coder" "B" (.int (nar .byte (0 : Int32))) ∧ Fld Z h b3 z_s2 "hash" "I" (.int (0 : Int32)) ∧ Fld Z h b3 z_s2 "hashIsZero" "Z" (.int (0 : Int32)) ∧ ax2 Z h b1_4 [(nar .byte (p0.toInt8.toInt32))])) (some (.ref b3)) T6.heap _ := ⟨b3, b1_4, rfl, N6, K6, ec4, df9, eh4, eg2, ne5, f0_6, f1_6, f2_6, f3_6, f4_6, G12⟩
  refine dv0 X6 hx hlk hP rfl rfl hrt (hb hby dr5) (by decide) (by decide) ?_
  exact hfin
theorem dh9 : decode jdk_29_method_69_code 0 = .ok (.iload_n 0, 1) := by decide +kernel
theorem di9 : decode jdk_29_method_69_code 1 = .ok (.iload_n 1, 1) := by decide +kernel
theorem co9 : decode jdk_29_method_69_code 2 = .ok (.if_icmp .gt 7, 3) := by decide +kernel
theorem dj9 : decode jdk_29_method_69_code 9 = .ok (.iload_n 1, 1) := by decide +kernel
theorem cu7 : decode jdk_29_method_69_code 10 = .ok (.ireturn, 1) := by decide +kernel
theorem dk9 : decode jdk_29_method_69_code 5 = .ok (.iload_n 0, 1) := by decide +kernel
theorem dl9 : decode jdk_29_method_69_code 6 = .ok (.goto 4, 3) := by decide +kernel
theorem dm9 (m : MethodId) (p0 : Int32) (p1 : Int32) : entryFrame m #[(.int p0), (.int p1)] 2 = mkF m 0 #[.val (.int p0), .val (.int p1)] [] := by first | (simp [entryFrame, mkF, argsToLocals, Value.category]; done) | rfl
def al9 (p0 : Int32) (p1 : Int32) : Int32 := (if p1 < p0 then p1 else p0)
set_option maxRecDepth 65536 in
set_option maxHeartbeats 40000000 in
theorem cc0 (l : Launch) (Z : State) (a0 : Array Value) (hw : ∀ d ∈ tables_1, d.before a0 Z = true) (ws : List Jvm.Cond) (p0 : Int32) (p1 : Int32)  (h0 : Heap) (n0 : Nat) (Z0 : n0 ≤ h0.size)  :
    ab3 l Z (⟨"java/lang/Math", "min", "(II)I"⟩ : MethodName) jdk_29_method_69_code 2 (some .int) ws ({ frames := 0, cells := 0, slots := 0, locals := 0 } : Room) #[(.int p0), (.int p1)] h0 (fun (v : Option Value) (h : Heap) (L : List Loc) => v = some (.int (al9 p0 p1)) ∧ Fr n0 L ∧ h = h0) := by
  refine al3 (Jvm.Free.JP.mathPlain rfl (by decide +kernel)) ?_
  intro p e s m below meth c s₁ P hx hby hml hrt hlk hown hnm hZ X0 e0 hP
  have N0 := Fr.nil n0
  have K0 := Keep.refl h0 []
  have hml' : c.maxLocals = 2 := hml
  refine ac4 (dm9 m p0 p1) ?_
  show aa0 p e below P (s₁.setTop (mkF m 0 #[.val (.int p0), .val (.int p1)] []))
  refine ae1 X0 hx (hb hby dh9) rfl ?_
  refine ae1 X0 hx (hb hby di9) rfl ?_
  by_cases hc1 : p1 < p0
  · refine au3 X0 hx (pc' := 9) (hb hby co9) (tlt hc1).2.2.1 ?_
    refine ae1 X0 hx (hb hby dj9) rfl ?_
    refine ao7 X0 hx hlk hP hrt (hb hby cu7) (by decide) (by decide) ⟨congrArg (fun z => some (Value.int z)) ?_, N0, e0⟩
    exact (show al9 p0 p1 = p1 from (if_pos hc1).trans (rfl)).symm
  · refine a4 X0 hx (hb hby co9) (flt hc1).2.2.1 ?_
    refine ae1 X0 hx (hb hby dk9) rfl ?_
    refine ao4 X0 hx (pc' := 10) (hb hby dl9) ?_
    refine ao7 X0 hx hlk hP hrt (hb hby cu7) (by decide) (by decide) ⟨congrArg (fun z => some (Value.int z)) ?_, N0, e0⟩
    exact (show al9 p0 p1 = p0 from (if_neg hc1).trans (rfl)).symm
theorem dn9 : decode prog_126_method_1_code 0 = .ok (.aload_n 0, 1) := by decide +kernel
theorem do9 : decode prog_126_method_1_code 1 = .ok (.invokespecial 1, 3) := by decide +kernel
theorem dp9 : decode prog_126_method_1_code 4 = .ok (.aload_n 0, 1) := by decide +kernel
theorem dq9 : decode prog_126_method_1_code 5 = .ok (.bipush 16, 2) := by decide +kernel
theorem dr9 : decode prog_126_method_1_code 7 = .ok (.anewarray 9, 3) := by decide +kernel
theorem du5 : decode prog_126_method_1_code 10 = .ok (.putfield 11, 3) := by decide +kernel
theorem dv5 : decode prog_126_method_1_code 13 = .ok (.aload_n 0, 1) := by decide +kernel
theorem dw5 : decode prog_126_method_1_code 14 = .ok (.sipush 128, 3) := by decide +kernel
theorem dx5 : decode prog_126_method_1_code 17 = .ok (.newarray .char, 2) := by decide +kernel
theorem dy5 : decode prog_126_method_1_code 19 = .ok (.putfield 15, 3) := by decide +kernel
theorem dz5 : decode prog_126_method_1_code 22 = .ok (.return_, 1) := by decide +kernel
theorem eh2 (m : MethodId) (o0 : Addr) : entryFrame m #[(.ref o0)] 1 = mkF m 0 #[.val (.ref o0)] [] := by first | (simp [entryFrame, mkF, argsToLocals, Value.category]; done) | rfl
theorem ar1 : plainName z_s1 = true := by first | (simp [plainName, overriddenIn]; done) | decide +kernel
set_option maxRecDepth 65536 in
set_option maxHeartbeats 40000000 in
theorem ce2 (l : Launch) (Z : State) (a0 : Array Value) (hw : ∀ d ∈ tables_1, d.before a0 Z = true) (ws : List Jvm.Cond) (o0 : Addr)  (h0 : Heap) (n0 : Nat) (Z0 : n0 ≤ h0.size) (E_o0 : Exa Z h0 o0 z_s1) (az3 : Fld Z h0 o0 z_s1 "levels" z_s4 .null) (ds9 : Fld Z h0 o0 z_s1 "path" "[C" .null) (au2 : Fld Z h0 o0 z_s1 "depth" "I" (.int (0 : Int32))) (ax5 : Fld Z h0 o0 z_s1 "written" "I" (.int (0 : Int32))) (ah2 : n0 ≤ o0) :
    ab3 l Z (⟨z_s1, "<init>", "()V"⟩ : MethodName) prog_126_method_1_code 1 none ws ({ frames := 1, cells := 2, slots := 144, locals := 12 } : Room) #[(.ref o0)] h0 (fun (v : Option Value) (h : Heap) (L : List Loc) => ∃ (b2 : Addr), v = none ∧ Fr n0 L ∧ Keep h0 h [o0] ∧ h0.size ≤ b2 ∧ n0 ≤ b2 ∧ Exa Z h o0 z_s1 ∧ Fld Z h o0 z_s1 "levels" z_s4 (.ref b2) ∧ Fld Z h o0 z_s1 "depth" "I" (.int (0 : Int32)) ∧ Fld Z h o0 z_s1 "written" "I" (.int (0 : Int32)) ∧ (ac2 z_s3) Z h b2 (List.replicate 16 Value.null)) := by
  refine al3 (plainFor_of_name ar1) ?_
  intro p e s m below meth c s₁ P hx hby hml hrt hlk hown hnm hZ X0 e0 hP
  have N0 := Fr.nil n0
  have K0 := Keep.refl h0 [o0]
  have hml' : c.maxLocals = 1 := hml
  refine ac4 (eh2 m o0) ?_
  show aa0 p e below P (s₁.setTop (mkF m 0 #[.val (.ref o0)] []))
  refine ae0 X0 hx (hb hby dn9) rfl rfl ?_
  obtain ⟨T1, X1, e1, st1⟩ := initO X0 hx hZ hown (z_w hw 32 rfl) (z_w hw 20 rfl) (z_w hw 21 rfl) e0 (g := (mkF m 1 #[.val (.ref o0)] [(.ref o0)])) rfl (by rw [hml']; rfl) rfl (hb hby do9) (by decide) (W := 0) (by show 2 * 0 + _ ≤ _; exact Nat.le_of_eq rfl) (by decide)
  refine an1 (fun _ => st1 _) ?_
  show aa0 p e below P (T1.setTop (mkF m 4 #[.val (.ref o0)] []))
  refine ae0 X1 hx (hb hby dp9) rfl rfl ?_
  refine bu4 X1 hx (hb hby dq9) (z := (16 : Int32)) rfl ?_
  refine dg8 X1 hx hZ hown (z_w hw 33 rfl) (z_w hw 34 rfl) e1 (j := (16 : Int32)) (n := 16) (by decide) 16 (by decide) (by decide) (by decide) (by decide) (hb hby dr9) (fun T2 h2 X2 e2 E2 B2 => ?_)
  obtain ⟨b2, g2⟩ : ∃ z, z = h0.size := ⟨_, rfl⟩
  rw [← g2] at B2 ⊢
  have ne3 := z_nb E_o0.lt g2
  have cr3 : n0 ≤ b2 := Nat.le_trans (Nat.le_trans Z0 K0.1) (Nat.le_of_eq g2.symm)
  have cl5 : h0.size ≤ b2 := Nat.le_trans K0.1 (Nat.le_of_eq g2.symm)
  have K2 := Keep.ext K0 E2
  have A2 : (ac2 z_s3) Z h2 b2 (List.replicate 16 Value.null) := B2
  have G4 := (az3.ext E2)
  have G5 := (E_o0.ext E2)
  refine am4 X2 hx hZ hown (host := "") (Or.inl (z_w hw 35 rfl)) Via.refl e2 G4 G5 (Or.inl (z_w hw 36 rfl)) (z_w hw 27 rfl) (ty := (.array (.object z_s3))) (by decide) (hb hby du5) (fun T6 h6 X6 e6 W6 => ?_)
  have N6 := Fr.snoc X6 N0 ah2
  have K6 := Keep.wr K2 W6 (Or.inl (List.mem_of_getElem? (i := 0) rfl))
  have F6 := G4.same W6
  refine ae0 X6 hx (hb hby dv5) rfl rfl ?_
  refine be8 X6 hx (hb hby dw5) (z := (128 : Int32)) rfl ?_
  refine eb2 X6 hx hZ (z_w hw 37 rfl) e6 (j := (128 : Int32)) (n := 128) (by decide) 128 (by decide) (by decide) (by decide) (by decide) (g := (mkF m 17 #[.val (.ref o0)] [(.int (128 : Int32)), (.ref o0)])) rfl rfl (hb hby dx5) (fun T7 h7 X7 e7 E7 B7 => ?_)
  obtain ⟨b7, g7⟩ : ∃ z, z = h6.size := ⟨_, rfl⟩
  rw [← g7] at B7 ⊢
  have G9 := (A2.other W6 ne3.symm)
  have ne8 := z_nb G9.lt g7
  have G11 := (G5.wr W6)
  have ne10 := z_nb G11.lt g7
  have dt9 : n0 ≤ b7 := Nat.le_trans (Nat.le_trans Z0 K6.1) (Nat.le_of_eq g7.symm)
  have ed4 : h0.size ≤ b7 := Nat.le_trans K6.1 (Nat.le_of_eq g7.symm)
  have K7 := Keep.ext K6 E7
  have A7 : ay7 Z h7 b7 (List.replicate 128 (0 : Int32)) := B7
  show aa0 p e below P (T7.setTop (mkF m 19 #[.val (.ref o0)] [(.ref b7), (.ref o0)]))
  have G12 := (((ds9.ext E2).other W6 (Or.inr (slot_ne (Or.inl (z_w hw 39 rfl)) (Or.inl (z_w hw 36 rfl)) (by decide) (t := (.array .char)) (t' := (.array (.object z_s3))) (by decide) (by decide)))).ext E7)
  have G13 := (G11.ext E7)
  refine am4 X7 hx hZ hown (host := "") (Or.inl (z_w hw 38 rfl)) Via.refl e7 G12 G13 (Or.inl (z_w hw 39 rfl)) (z_w hw 27 rfl) (ty := (.array .char)) (by decide) (hb hby dy5) (fun T14 h14 X14 e14 W14 => ?_)
  have N14 := Fr.snoc X14 N6 ah2
  have K14 := Keep.wr K7 W14 (Or.inl (List.mem_of_getElem? (i := 0) rfl))
  have F14 := G12.same W14
  have G15 := (G13.wr W14)
  have G16 := ((F6.ext E7).other W14 (Or.inr (slot_ne (Or.inl (z_w hw 36 rfl)) (Or.inl (z_w hw 39 rfl)) (by decide) (t := (.array (.object z_s3))) (t' := (.array .char)) (by decide) (by decide))))
  have G17 := ((((au2.ext E2).other W6 (Or.inr (slot_ne (Or.inl (z_w hw 46 rfl)) (Or.inl (z_w hw 36 rfl)) (by decide) (t := .int) (t' := (.array (.object z_s3))) (by decide) (by decide)))).ext E7).other W14 (Or.inr (slot_ne (Or.inl (z_w hw 46 rfl)) (Or.inl (z_w hw 39 rfl)) (by decide) (t := .int) (t' := (.array .char)) (by decide) (by decide))))
  have G18 := ((((ax5.ext E2).other W6 (Or.inr (slot_ne (Or.inl (z_w hw 87 rfl)) (Or.inl (z_w hw 36 rfl)) (by decide) (t := .int) (t' := (.array (.object z_s3))) (by decide) (by decide)))).ext E7).other W14 (Or.inr (slot_ne (Or.inl (z_w hw 87 rfl)) (Or.inl (z_w hw 39 rfl)) (by decide) (t := .int) (t' := (.array .char)) (by decide) (by decide))))
  have G19 := ((G9.ext E7).other W14 ne3.symm)
  have hfin : ((fun (v : Option Value) (h : Heap) (L : List Loc) => ∃ (b2 : Addr), v = none ∧ Fr n0 L ∧ Keep h0 h [o0] ∧ h0.size ≤ b2 ∧ n0 ≤ b2 ∧ Exa Z h o0 z_s1 ∧ Fld Z h o0 z_s1 "levels" z_s4 (.ref b2) ∧ Fld Z h o0 z_s1 "depth" "I" (.int (0 : Int32)) ∧ Fld Z h o0 z_s1 "written" "I" (.int (0 : Int32)) ∧ (ac2 z_s3) Z h b2 (List.replicate 16 Value.null))) none h14 _ := ⟨b2, rfl, N14, K14, cl5, cr3, G15, G16, G17, G18, G19⟩
  refine bj0 X14 hx hlk hP hrt (hb hby dz5) (by decide) (by decide) ?_
  rw [e14]; exact hfin
theorem du9 : decode prog_128_method_1_code 0 = .ok (.aload_n 0, 1) := by decide +kernel
theorem dv9 : decode prog_128_method_1_code 1 = .ok (.invokespecial 1, 3) := by decide +kernel
theorem dw9 : decode prog_128_method_1_code 4 = .ok (.aload_n 0, 1) := by decide +kernel
theorem dx9 : decode prog_128_method_1_code 5 = .ok (.bipush 16, 2) := by decide +kernel
theorem dy9 : decode prog_128_method_1_code 7 = .ok (.anewarray 9, 3) := by decide +kernel
theorem d6 : decode prog_128_method_1_code 10 = .ok (.putfield 11, 3) := by decide +kernel
theorem da6 : decode prog_128_method_1_code 13 = .ok (.aload_n 0, 1) := by decide +kernel
theorem db6 : decode prog_128_method_1_code 14 = .ok (.bipush 16, 2) := by decide +kernel
theorem dc6 : decode prog_128_method_1_code 16 = .ok (.newarray .int, 2) := by decide +kernel
theorem dd6 : decode prog_128_method_1_code 18 = .ok (.putfield 15, 3) := by decide +kernel
theorem de6 : decode prog_128_method_1_code 21 = .ok (.aload_n 0, 1) := by decide +kernel
theorem df6 : decode prog_128_method_1_code 22 = .ok (.bipush 16, 2) := by decide +kernel
theorem dg6 : decode prog_128_method_1_code 24 = .ok (.newarray .int, 2) := by decide +kernel
theorem dh6 : decode prog_128_method_1_code 26 = .ok (.putfield 19, 3) := by decide +kernel
theorem di6 : decode prog_128_method_1_code 29 = .ok (.return_, 1) := by decide +kernel
theorem ej2 (m : MethodId) (o0 : Addr) : entryFrame m #[(.ref o0)] 1 = mkF m 0 #[.val (.ref o0)] [] := by first | (simp [entryFrame, mkF, argsToLocals, Value.category]; done) | rfl
theorem aa1 : plainName z_s0 = true := by first | (simp [plainName, overriddenIn]; done) | decide +kernel
set_option maxRecDepth 65536 in
set_option maxHeartbeats 40000000 in
theorem ej4 (l : Launch) (Z : State) (a0 : Array Value) (hw : ∀ d ∈ tables_1, d.before a0 Z = true) (ws : List Jvm.Cond) (o0 : Addr)  (h0 : Heap) (n0 : Nat) (Z0 : n0 ≤ h0.size) (E_o0 : Exa Z h0 o0 z_s0) (ar2 : Fld Z h0 o0 z_s0 "names" z_s8 .null) (aw2 : Fld Z h0 o0 z_s0 "counts" "[I" .null) (ah4 : Fld Z h0 o0 z_s0 "used" "[I" .null) (af3 : Fld Z h0 o0 z_s0 "size" "I" (.int (0 : Int32))) (av2 : Fld Z h0 o0 z_s0 "last" z_s5 .null) (ap2 : Fld Z h0 o0 z_s0 "lastSlot" "I" (.int (0 : Int32))) (ah2 : n0 ≤ o0) :
    ab3 l Z (⟨z_s0, "<init>", "()V"⟩ : MethodName) prog_128_method_1_code 1 none ws ({ frames := 1, cells := 3, slots := 48, locals := 12 } : Room) #[(.ref o0)] h0 (fun (v : Option Value) (h : Heap) (L : List Loc) => ∃ (b2 : Addr) (b7 : Addr) (b15 : Addr), v = none ∧ Fr n0 L ∧ Keep h0 h [o0] ∧ h0.size ≤ b2 ∧ n0 ≤ b2 ∧ h0.size ≤ b7 ∧ n0 ≤ b7 ∧ h0.size ≤ b15 ∧ n0 ≤ b15 ∧ b2 ≠ b7 ∧ b2 ≠ b15 ∧ b7 ≠ b15 ∧ Exa Z h o0 z_s0 ∧ Fld Z h o0 z_s0 "names" z_s8 (.ref b2) ∧ Fld Z h o0 z_s0 "counts" "[I" (.ref b7) ∧ Fld Z h o0 z_s0 "used" "[I" (.ref b15) ∧ Fld Z h o0 z_s0 "size" "I" (.int (0 : Int32)) ∧ Fld Z h o0 z_s0 "last" z_s5 .null ∧ Fld Z h o0 z_s0 "lastSlot" "I" (.int (0 : Int32)) ∧ (ac2 z_s2) Z h b2 (List.replicate 16 Value.null) ∧ ah1 Z h b7 (List.replicate 16 (0 : Int32)) ∧ ah1 Z h b15 (List.replicate 16 (0 : Int32))) := by
  refine al3 (plainFor_of_name aa1) ?_
  intro p e s m below meth c s₁ P hx hby hml hrt hlk hown hnm hZ X0 e0 hP
  have N0 := Fr.nil n0
  have K0 := Keep.refl h0 [o0]
  have hml' : c.maxLocals = 1 := hml
  refine ac4 (ej2 m o0) ?_
  show aa0 p e below P (s₁.setTop (mkF m 0 #[.val (.ref o0)] []))
  refine ae0 X0 hx (hb hby du9) rfl rfl ?_
  obtain ⟨T1, X1, e1, st1⟩ := initO X0 hx hZ hown (z_w hw 59 rfl) (z_w hw 20 rfl) (z_w hw 21 rfl) e0 (g := (mkF m 1 #[.val (.ref o0)] [(.ref o0)])) rfl (by rw [hml']; rfl) rfl (hb hby dv9) (by decide) (W := 0) (by show 2 * 0 + _ ≤ _; exact Nat.le_of_eq rfl) (by decide)
  refine an1 (fun _ => st1 _) ?_
  show aa0 p e below P (T1.setTop (mkF m 4 #[.val (.ref o0)] []))
  refine ae0 X1 hx (hb hby dw9) rfl rfl ?_
  refine bu4 X1 hx (hb hby dx9) (z := (16 : Int32)) rfl ?_
  refine dg8 X1 hx hZ hown (z_w hw 60 rfl) (z_w hw 61 rfl) e1 (j := (16 : Int32)) (n := 16) (by decide) 16 (by decide) (by decide) (by decide) (by decide) (hb hby dy9) (fun T2 h2 X2 e2 E2 B2 => ?_)
  obtain ⟨b2, g2⟩ : ∃ z, z = h0.size := ⟨_, rfl⟩
  rw [← g2] at B2 ⊢
  have ne3 := z_nb E_o0.lt g2
  have cr3 : n0 ≤ b2 := Nat.le_trans (Nat.le_trans Z0 K0.1) (Nat.le_of_eq g2.symm)
  have cl5 : h0.size ≤ b2 := Nat.le_trans K0.1 (Nat.le_of_eq g2.symm)
  have K2 := Keep.ext K0 E2
  have A2 : (ac2 z_s2) Z h2 b2 (List.replicate 16 Value.null) := B2
  have G4 := (ar2.ext E2)
  have G5 := (E_o0.ext E2)
  refine am4 X2 hx hZ hown (host := "") (Or.inl (z_w hw 62 rfl)) Via.refl e2 G4 G5 (Or.inl (z_w hw 63 rfl)) (z_w hw 54 rfl) (ty := (.array (.object z_s2))) (by decide) (hb hby d6) (fun T6 h6 X6 e6 W6 => ?_)
  have N6 := Fr.snoc X6 N0 ah2
  have K6 := Keep.wr K2 W6 (Or.inl (List.mem_of_getElem? (i := 0) rfl))
  have F6 := G4.same W6
  refine ae0 X6 hx (hb hby da6) rfl rfl ?_
  refine bu4 X6 hx (hb hby db6) (z := (16 : Int32)) rfl ?_
  refine de8 X6 hx hZ (z_w hw 64 rfl) e6 (j := (16 : Int32)) (n := 16) (by decide) 16 (by decide) (by decide) (by decide) (by decide) (hb hby dc6) (fun T7 h7 X7 e7 E7 B7 => ?_)
  obtain ⟨b7, g7⟩ : ∃ z, z = h6.size := ⟨_, rfl⟩
  rw [← g7] at B7 ⊢
  have G9 := (A2.other W6 ne3.symm)
  have ne8 := z_nb G9.lt g7
  have G11 := (G5.wr W6)
  have ne10 := z_nb G11.lt g7
  have dt9 : n0 ≤ b7 := Nat.le_trans (Nat.le_trans Z0 K6.1) (Nat.le_of_eq g7.symm)
  have ed4 : h0.size ≤ b7 := Nat.le_trans K6.1 (Nat.le_of_eq g7.symm)
  have K7 := Keep.ext K6 E7
  have A7 : ah1 Z h7 b7 (List.replicate 16 (0 : Int32)) := B7
  have G12 := (((aw2.ext E2).other W6 (Or.inr (slot_ne (Or.inl (z_w hw 66 rfl)) (Or.inl (z_w hw 63 rfl)) (by decide) (t := (.array .int)) (t' := (.array (.object z_s2))) (by decide) (by decide)))).ext E7)
  have G13 := (G11.ext E7)
  refine am4 X7 hx hZ hown (host := "") (Or.inl (z_w hw 65 rfl)) Via.refl e7 G12 G13 (Or.inl (z_w hw 66 rfl)) (z_w hw 54 rfl) (ty := (.array .int)) (by decide) (hb hby dd6) (fun T14 h14 X14 e14 W14 => ?_)
  have N14 := Fr.snoc X14 N6 ah2
  have K14 := Keep.wr K7 W14 (Or.inl (List.mem_of_getElem? (i := 0) rfl))
  have F14 := G12.same W14
  refine ae0 X14 hx (hb hby de6) rfl rfl ?_
  refine bu4 X14 hx (hb hby df6) (z := (16 : Int32)) rfl ?_
  refine de8 X14 hx hZ (z_w hw 64 rfl) e14 (j := (16 : Int32)) (n := 16) (by decide) 16 (by decide) (by decide) (by decide) (by decide) (hb hby dg6) (fun T15 h15 X15 e15 E15 B15 => ?_)
  obtain ⟨b15, g15⟩ : ∃ z, z = h14.size := ⟨_, rfl⟩
  rw [← g15] at B15 ⊢
  have G17 := ((G9.ext E7).other W14 ne3.symm)
  have ne16 := z_nb G17.lt g15
  have G19 := (A7.other W14 ne10.symm)
  have ne18 := z_nb G19.lt g15
  have G21 := (G13.wr W14)
  have ne20 := z_nb G21.lt g15
  have ek4 : n0 ≤ b15 := Nat.le_trans (Nat.le_trans Z0 K14.1) (Nat.le_of_eq g15.symm)
  have ez4 : h0.size ≤ b15 := Nat.le_trans K14.1 (Nat.le_of_eq g15.symm)
  have K15 := Keep.ext K14 E15
  have A15 : ah1 Z h15 b15 (List.replicate 16 (0 : Int32)) := B15
  have G22 := (((((ah4.ext E2).other W6 (Or.inr (slot_ne (Or.inl (z_w hw 68 rfl)) (Or.inl (z_w hw 63 rfl)) (by decide) (t := (.array .int)) (t' := (.array (.object z_s2))) (by decide) (by decide)))).ext E7).other W14 (Or.inr (slot_ne (Or.inl (z_w hw 68 rfl)) (Or.inl (z_w hw 66 rfl)) (by decide) (t := (.array .int)) (t' := (.array .int)) (by decide) (by decide)))).ext E15)
  have G23 := (G21.ext E15)
  refine am4 X15 hx hZ hown (host := "") (Or.inl (z_w hw 67 rfl)) Via.refl e15 G22 G23 (Or.inl (z_w hw 68 rfl)) (z_w hw 54 rfl) (ty := (.array .int)) (by decide) (hb hby dh6) (fun T24 h24 X24 e24 W24 => ?_)
  have N24 := Fr.snoc X24 N14 ah2
  have K24 := Keep.wr K15 W24 (Or.inl (List.mem_of_getElem? (i := 0) rfl))
  have F24 := G22.same W24
  have G25 := (G23.wr W24)
  have G26 := ((((F6.ext E7).other W14 (Or.inr (slot_ne (Or.inl (z_w hw 63 rfl)) (Or.inl (z_w hw 66 rfl)) (by decide) (t := (.array (.object z_s2))) (t' := (.array .int)) (by decide) (by decide)))).ext E15).other W24 (Or.inr (slot_ne (Or.inl (z_w hw 63 rfl)) (Or.inl (z_w hw 68 rfl)) (by decide) (t := (.array (.object z_s2))) (t' := (.array .int)) (by decide) (by decide))))
  have G27 := ((F14.ext E15).other W24 (Or.inr (slot_ne (Or.inl (z_w hw 66 rfl)) (Or.inl (z_w hw 68 rfl)) (by decide) (t := (.array .int)) (t' := (.array .int)) (by decide) (by decide))))
  have G28 := ((((((af3.ext E2).other W6 (Or.inr (slot_ne (Or.inl (z_w hw 83 rfl)) (Or.inl (z_w hw 63 rfl)) (by decide) (t := .int) (t' := (.array (.object z_s2))) (by decide) (by decide)))).ext E7).other W14 (Or.inr (slot_ne (Or.inl (z_w hw 83 rfl)) (Or.inl (z_w hw 66 rfl)) (by decide) (t := .int) (t' := (.array .int)) (by decide) (by decide)))).ext E15).other W24 (Or.inr (slot_ne (Or.inl (z_w hw 83 rfl)) (Or.inl (z_w hw 68 rfl)) (by decide) (t := .int) (t' := (.array .int)) (by decide) (by decide))))
  have G29 := ((((((av2.ext E2).other W6 (Or.inr (slot_ne (Or.inl (z_w hw 85 rfl)) (Or.inl (z_w hw 63 rfl)) (by decide) (t := (.object z_s2)) (t' := (.array (.object z_s2))) (by decide) (by decide)))).ext E7).other W14 (Or.inr (slot_ne (Or.inl (z_w hw 85 rfl)) (Or.inl (z_w hw 66 rfl)) (by decide) (t := (.object z_s2)) (t' := (.array .int)) (by decide) (by decide)))).ext E15).other W24 (Or.inr (slot_ne (Or.inl (z_w hw 85 rfl)) (Or.inl (z_w hw 68 rfl)) (by decide) (t := (.object z_s2)) (t' := (.array .int)) (by decide) (by decide))))
  have G30 := ((((((ap2.ext E2).other W6 (Or.inr (slot_ne (Or.inl (z_w hw 118 rfl)) (Or.inl (z_w hw 63 rfl)) (by decide) (t := .int) (t' := (.array (.object z_s2))) (by decide) (by decide)))).ext E7).other W14 (Or.inr (slot_ne (Or.inl (z_w hw 118 rfl)) (Or.inl (z_w hw 66 rfl)) (by decide) (t := .int) (t' := (.array .int)) (by decide) (by decide)))).ext E15).other W24 (Or.inr (slot_ne (Or.inl (z_w hw 118 rfl)) (Or.inl (z_w hw 68 rfl)) (by decide) (t := .int) (t' := (.array .int)) (by decide) (by decide))))
  have G31 := ((G17.ext E15).other W24 ne3.symm)
  have G32 := ((G19.ext E15).other W24 ne10.symm)
  have G33 := (A15.other W24 ne20.symm)
  have hfin : ((fun (v : Option Value) (h : Heap) (L : List Loc) => ∃ (b2 : Addr) (b7 : Addr) (b15 : Addr), v = none ∧ Fr n0 L ∧ Keep h0 h [o0] ∧ h0.size ≤ b2 ∧ n0 ≤ b2 ∧ h0.size ≤ b7 ∧ n0 ≤ b7 ∧ h0.size ≤ b15 ∧ n0 ≤ b15 ∧ b2 ≠ b7 ∧ b2 ≠ b15 ∧ b7 ≠ b15 ∧ Exa Z h o0 z_s0 ∧ Fld Z h o0 z_s0 "names" z_s8 (.ref b2) ∧ Fld Z h o0 z_s0 "counts" "[I" (.ref b7) ∧ Fld Z h o0 z_s0 "used" "[I" (.ref b15) ∧ Fld Z h o0 z_s0 "size" "I" (.int (0 : Int32)) ∧ Fld Z h o0 z_s0 "last" z_s5 .null ∧ Fld Z h o0 z_s0 "lastSlot" "I" (.int (0 : Int32)) ∧ (ac2 z_s2) Z h b2 (List.replicate 16 Value.null) ∧ ah1 Z h b7 (List.replicate 16 (0 : Int32)) ∧ ah1 Z h b15 (List.replicate 16 (0 : Int32)))) none h24 _ := ⟨b2, b7, b15, rfl, N24, K24, cl5, cr3, ed4, dt9, ez4, ek4, ne8, ne16, ne18, G25, G26, G27, F24, G28, G29, G30, G31, G32, G33⟩
  refine bj0 X24 hx hlk hP hrt (hb hby di6) (by decide) (by decide) ?_
  rw [e24]; exact hfin
theorem dz9 : decode prog_127_method_1_code 0 = .ok (.aload_n 0, 1) := by decide +kernel
theorem ea0 : decode prog_127_method_1_code 1 = .ok (.invokespecial 1, 3) := by decide +kernel
theorem eb0 : decode prog_127_method_1_code 4 = .ok (.aload_n 0, 1) := by decide +kernel
theorem ec0 : decode prog_127_method_1_code 5 = .ok (.new 7, 3) := by decide +kernel
theorem ed0 : decode prog_127_method_1_code 8 = .ok (.dup, 1) := by decide +kernel
theorem ee0 : decode prog_127_method_1_code 9 = .ok (.invokespecial 9, 3) := by decide +kernel
theorem as2 : parseMethodDescriptor "()V" = some ⟨[], none⟩ := by decide +kernel
theorem dj6 : decode prog_127_method_1_code 12 = .ok (.putfield 10, 3) := by decide +kernel
theorem dk6 : decode prog_127_method_1_code 15 = .ok (.return_, 1) := by decide +kernel
theorem ek2 (m : MethodId) (o0 : Addr) : entryFrame m #[(.ref o0)] 1 = mkF m 0 #[.val (.ref o0)] [] := by first | (simp [entryFrame, mkF, argsToLocals, Value.category]; done) | rfl
theorem at9 : plainName z_s3 = true := by first | (simp [plainName, overriddenIn]; done) | decide +kernel
set_option maxRecDepth 65536 in
set_option maxHeartbeats 40000000 in
theorem du4 (l : Launch) (Z : State) (a0 : Array Value) (hw : ∀ d ∈ tables_1, d.before a0 Z = true) (ws : List Jvm.Cond) (o0 : Addr)  (h0 : Heap) (n0 : Nat) (Z0 : n0 ≤ h0.size) (E_o0 : Exa Z h0 o0 z_s3) (de0 : Fld Z h0 o0 z_s3 "children" z_s6 .null) (ef0 : Fld Z h0 o0 z_s3 "name" z_s5 .null) (dl6 : Fld Z h0 o0 z_s3 "index" "I" (.int (0 : Int32))) (ah2 : n0 ≤ o0) :
    ab3 l Z (⟨z_s3, "<init>", "()V"⟩ : MethodName) prog_127_method_1_code 1 none ws ({ frames := 2, cells := 4, slots := 54, locals := 26 } : Room) #[(.ref o0)] h0 (fun (v : Option Value) (h : Heap) (L : List Loc) => ∃ (b2 : Addr) (b2_4 : Addr) (b7_4 : Addr) (b15_4 : Addr), v = none ∧ Fr n0 L ∧ Keep h0 h [o0] ∧ h0.size ≤ b2 ∧ n0 ≤ b2 ∧ h0.size ≤ b2_4 ∧ n0 ≤ b2_4 ∧ h0.size ≤ b7_4 ∧ n0 ≤ b7_4 ∧ h0.size ≤ b15_4 ∧ n0 ≤ b15_4 ∧ b2 ≠ b2_4 ∧ b2 ≠ b7_4 ∧ b2_4 ≠ b7_4 ∧ b2 ≠ b15_4 ∧ b2_4 ≠ b15_4 ∧ b7_4 ≠ b15_4 ∧ Exa Z h o0 z_s3 ∧ Fld Z h o0 z_s3 "children" z_s6 (.ref b2) ∧ Fld Z h o0 z_s3 "name" z_s5 .null ∧ Fld Z h o0 z_s3 "index" "I" (.int (0 : Int32)) ∧ Exa Z h b2 z_s0 ∧ Fld Z h b2 z_s0 "names" z_s8 (.ref b2_4) ∧ Fld Z h b2 z_s0 "counts" "[I" (.ref b7_4) ∧ Fld Z h b2 z_s0 "used" "[I" (.ref b15_4) ∧ Fld Z h b2 z_s0 "size" "I" (.int (0 : Int32)) ∧ Fld Z h b2 z_s0 "last" z_s5 .null ∧ Fld Z h b2 z_s0 "lastSlot" "I" (.int (0 : Int32)) ∧ (ac2 z_s2) Z h b2_4 (List.replicate 16 Value.null) ∧ ah1 Z h b7_4 (List.replicate 16 (0 : Int32)) ∧ ah1 Z h b15_4 (List.replicate 16 (0 : Int32))) := by
  refine al3 (plainFor_of_name at9) ?_
  intro p e s m below meth c s₁ P hx hby hml hrt hlk hown hnm hZ X0 e0 hP
  have N0 := Fr.nil n0
  have K0 := Keep.refl h0 [o0]
  have hml' : c.maxLocals = 1 := hml
  refine ac4 (ek2 m o0) ?_
  show aa0 p e below P (s₁.setTop (mkF m 0 #[.val (.ref o0)] []))
  refine ae0 X0 hx (hb hby dz9) rfl rfl ?_
  obtain ⟨T1, X1, e1, st1⟩ := initO X0 hx hZ hown (z_w hw 52 rfl) (z_w hw 20 rfl) (z_w hw 21 rfl) e0 (g := (mkF m 1 #[.val (.ref o0)] [(.ref o0)])) rfl (by rw [hml']; rfl) rfl (hb hby ea0) (by decide) (W := 0) (by show 2 * 0 + _ ≤ _; exact Nat.le_of_eq rfl) (by decide)
  refine an1 (fun _ => st1 _) ?_
  show aa0 p e below P (T1.setTop (mkF m 4 #[.val (.ref o0)] []))
  refine ae0 X1 hx (hb hby eb0) rfl rfl ?_
  obtain ⟨T2, h2, X2, e2, E2, A2, D2, -, st2⟩ := newO X1 hx hZ hown (z_w hw 53 rfl) (z_w hw 54 rfl) (z_w hw 55 rfl) e1 (g := (mkF m 5 #[.val (.ref o0)] [(.ref o0)])) rfl (hb hby ec0) (by decide) (by decide)
  obtain ⟨b2, g2⟩ : ∃ z, z = h0.size := ⟨_, rfl⟩
  rw [← g2] at A2 D2 st2
  have ne3 := z_nb E_o0.lt g2
  have cr3 : n0 ≤ b2 := Nat.le_trans (Nat.le_trans Z0 K0.1) (Nat.le_of_eq g2.symm)
  have cl5 : h0.size ≤ b2 := Nat.le_trans K0.1 (Nat.le_of_eq g2.symm)
  have K2 := Keep.ext K0 E2
  have dm6 : Fld Z h2 b2 z_s0 "names" z_s8 .null := D2 (Or.inl (z_w hw 63 rfl)) (ty := (.array (.object z_s2))) (by decide)
  have dq1 : Fld Z h2 b2 z_s0 "counts" "[I" .null := D2 (Or.inl (z_w hw 66 rfl)) (ty := (.array .int)) (by decide)
  have eg0 : Fld Z h2 b2 z_s0 "used" "[I" .null := D2 (Or.inl (z_w hw 68 rfl)) (ty := (.array .int)) (by decide)
  have eh0 : Fld Z h2 b2 z_s0 "size" "I" (.int (0 : Int32)) := D2 (Or.inl (z_w hw 83 rfl)) (ty := .int) (by decide)
  have ej0 : Fld Z h2 b2 z_s0 "last" z_s5 .null := D2 (Or.inl (z_w hw 85 rfl)) (ty := (.object z_s2)) (by decide)
  have df0 : Fld Z h2 b2 z_s0 "lastSlot" "I" (.int (0 : Int32)) := D2 (Or.inl (z_w hw 118 rfl)) (ty := .int) (by decide)
  refine an1 (fun _ => st2 _) ?_
  show aa0 p e below P (T2.setTop (mkF m 8 #[.val (.ref o0)] [(.ref b2), (.ref o0)]))
  refine bi0 X2 hx (hb hby ed0) rfl ?_
  refine df5 X2 hx hZ (y := (⟨z_s0, "<init>", "()V"⟩ : MethodName)) rfl hown (z_w hw 56 rfl) (z_w hw 57 rfl) (z_w hw 55 rfl) (z_w hw 58 rfl) (by decide) (ej4 l Z a0 hw [] b2  h2 n0 (Nat.le_trans Z0 K2.1) A2 dm6 dq1 eg0 eh0 ej0 df0 cr3) 2 (by decide) (by decide) e2 (by decide) (by decide) (g := (mkF m 9 #[.val (.ref o0)] [(.ref b2), (.ref b2), (.ref o0)])) rfl (by rw [hml']; rfl) (a := b2) (argsL := []) (rest := [(.ref b2), (.ref o0)]) rfl (lenOf as2 rfl) rfl (by show 2 * 0 + _ ≤ _; exact Nat.le_of_eq rfl) (hb hby ee0) (fun r4 T4 L4 X4 hQ4 => ?_)
  obtain ⟨b2_4, b7_4, b15_4, rfl, Nq4, Kq4, cd7, el2, ce7, em2, cz4, ek0, dy0, dg0, dh0, f0_4, f1_4, f2_4, f3_4, f4_4, f5_4, f6_4, f7_4, f8_4, f9_4⟩ := hQ4
  have N4 := Fr.app N0 Nq4
  have ne5 := z_nc A2.lt cd7
  have ne6 := z_nc A2.lt ce7
  have ne7 := z_nc A2.lt cz4
  have G8 := (E_o0.ext E2)
  have ne9 := z_nc G8.lt cd7
  have ne10 := z_nc G8.lt ce7
  have ne11 := z_nc G8.lt cz4
  have el4 := Nat.le_trans K2.1 cd7
  have em4 := Nat.le_trans K2.1 ce7
  have en2 := Nat.le_trans K2.1 cz4
  have K4 := Keep.trans K2 Kq4 (allS (Or.inr cl5) all0)
  show aa0 p e below P (T4.setTop (mkF m 12 #[.val (.ref o0)] [(.ref b2), (.ref o0)]))
  have G12 := ((de0.ext E2).keep Kq4 (ninS ne3 nin0))
  have G13 := (G8.keep Kq4)
  refine am4 X4 hx hZ hown (host := "") (Or.inl (z_w hw 69 rfl)) Via.refl rfl G12 G13 (Or.inr ⟨(z_w hw 70 rfl), rfl, hnm⟩) (z_w hw 47 rfl) (ty := (.object z_s0)) (by decide) (hb hby dj6) (fun T14 h14 X14 e14 W14 => ?_)
  have N14 := Fr.snoc X14 N4 ah2
  have K14 := Keep.wr K4 W14 (Or.inl (List.mem_of_getElem? (i := 0) rfl))
  have F14 := G12.same W14
  have G15 := (G13.wr W14)
  have G16 := (((ef0.ext E2).keep Kq4 (ninS ne3 nin0)).other W14 (Or.inr (slot_ne (Or.inl (z_w hw 73 rfl)) (Or.inr (z_w hw 70 rfl)) (by decide) (t := (.object z_s2)) (t' := (.object z_s0)) (by decide) (by decide))))
  have G17 := (((dl6.ext E2).keep Kq4 (ninS ne3 nin0)).other W14 (Or.inr (slot_ne (Or.inl (z_w hw 75 rfl)) (Or.inr (z_w hw 70 rfl)) (by decide) (t := .int) (t' := (.object z_s0)) (by decide) (by decide))))
  have G18 := (f0_4.wr W14)
  have G19 := (f1_4.other W14 (Or.inl ne3.symm))
  have G20 := (f2_4.other W14 (Or.inl ne3.symm))
  have G21 := (f3_4.other W14 (Or.inl ne3.symm))
  have G22 := (f4_4.other W14 (Or.inl ne3.symm))
  have G23 := (f5_4.other W14 (Or.inl ne3.symm))
  have G24 := (f6_4.other W14 (Or.inl ne3.symm))
  have G25 := (f7_4.other W14 ne9.symm)
  have G26 := (f8_4.other W14 ne10.symm)
  have G27 := (f9_4.other W14 ne11.symm)
  have hfin : ((fun (v : Option Value) (h : Heap) (L : List Loc) => ∃ (b2 : Addr) (b2_4 : Addr) (b7_4 : Addr) (b15_4 : Addr), v = none ∧ Fr n0 L ∧ Keep h0 h [o0] ∧ h0.size ≤ b2 ∧ n0 ≤ b2 ∧ h0.size ≤ b2_4 ∧ n0 ≤ b2_4 ∧ h0.size ≤ b7_4 ∧ n0 ≤ b7_4 ∧ h0.size ≤ b15_4 ∧ n0 ≤ b15_4 ∧ b2 ≠ b2_4 ∧ b2 ≠ b7_4 ∧ b2_4 ≠ b7_4 ∧ b2 ≠ b15_4 ∧ b2_4 ≠ b15_4 ∧ b7_4 ≠ b15_4 ∧ Exa Z h o0 z_s3 ∧ Fld Z h o0 z_s3 "children" z_s6 (.ref b2) ∧ Fld Z h o0 z_s3 "name" z_s5 .null ∧ Fld Z h o0 z_s3 "index" "I" (.int (0 : Int32)) ∧ Exa Z h b2 z_s0 ∧ Fld Z h b2 z_s0 "names" z_s8 (.ref b2_4) ∧ Fld Z h b2 z_s0 "counts" "[I" (.ref b7_4) ∧ Fld Z h b2 z_s0 "used" "[I" (.ref b15_4) ∧ Fld Z h b2 z_s0 "size" "I" (.int (0 : Int32)) ∧ Fld Z h b2 z_s0 "last" z_s5 .null ∧ Fld Z h b2 z_s0 "lastSlot" "I" (.int (0 : Int32)) ∧ (ac2 z_s2) Z h b2_4 (List.replicate 16 Value.null) ∧ ah1 Z h b7_4 (List.replicate 16 (0 : Int32)) ∧ ah1 Z h b15_4 (List.replicate 16 (0 : Int32)))) none h14 _ := ⟨b2, b2_4, b7_4, b15_4, rfl, N14, K14, cl5, cr3, el4, el2, em4, em2, en2, ek0, ne5, ne6, dy0, ne7, dg0, dh0, G15, F14, G16, G17, G18, G19, G20, G21, G22, G23, G24, G25, G26, G27⟩
  refine bj0 X14 hx hlk hP hrt (hb hby dk6) (by decide) (by decide) ?_
  rw [e14]; exact hfin
theorem cp9 : decode prog_128_method_3_code 0 = .ok (.iconst 0, 1) := by decide +kernel
theorem cq9 : decode prog_128_method_3_code 1 = .ok (.istore_n 1, 1) := by decide +kernel
theorem cr9 : decode prog_128_method_3_code 2 = .ok (.iload_n 1, 1) := by decide +kernel
theorem cs9 : decode prog_128_method_3_code 3 = .ok (.aload_n 0, 1) := by decide +kernel
theorem ct9 : decode prog_128_method_3_code 4 = .ok (.getfield 42, 3) := by decide +kernel
theorem cu9 : decode prog_128_method_3_code 7 = .ok (.if_icmp .ge 21, 3) := by decide +kernel
theorem cv7 : decode prog_128_method_3_code 28 = .ok (.aload_n 0, 1) := by decide +kernel
theorem cw7 : decode prog_128_method_3_code 29 = .ok (.iconst 0, 1) := by decide +kernel
theorem cx7 : decode prog_128_method_3_code 30 = .ok (.putfield 42, 3) := by decide +kernel
theorem cy7 : decode prog_128_method_3_code 33 = .ok (.aload_n 0, 1) := by decide +kernel
theorem cz7 : decode prog_128_method_3_code 34 = .ok (.aconst_null, 1) := by decide +kernel
theorem c8 : decode prog_128_method_3_code 35 = .ok (.putfield 22, 3) := by decide +kernel
theorem ca8 : decode prog_128_method_3_code 38 = .ok (.return_, 1) := by decide +kernel
theorem eo2 (m : MethodId) (o0 : Addr) : entryFrame m #[(.ref o0)] 2 = mkF m 0 #[.val (.ref o0), .unset] [] := by first | (simp [entryFrame, mkF, argsToLocals, Value.category]; done) | rfl
set_option maxRecDepth 65536 in
set_option maxHeartbeats 40000000 in
theorem cs3 (l : Launch) (Z : State) (a0 : Array Value) (hw : ∀ d ∈ tables_1, d.before a0 Z = true) (ws : List Jvm.Cond) (o0 : Addr)  (h0 : Heap) (n0 : Nat) (Z0 : n0 ≤ h0.size) (E_o0 : Exa Z h0 o0 z_s0) (af3 : Fld Z h0 o0 z_s0 "size" "I" (.int (0 : Int32))) (av2 : Fld Z h0 o0 z_s0 "last" z_s5 .null) (ah2 : n0 ≤ o0) :
    ab3 l Z (⟨z_s0, "clear", "()V"⟩ : MethodName) prog_128_method_3_code 2 none ws ({ frames := 0, cells := 0, slots := 0, locals := 0 } : Room) #[(.ref o0)] h0 (fun (v : Option Value) (h : Heap) (L : List Loc) => v = none ∧ Fr n0 L ∧ Keep h0 h [o0] ∧ Exa Z h o0 z_s0 ∧ Fld Z h o0 z_s0 "size" "I" (.int (0 : Int32)) ∧ Fld Z h o0 z_s0 "last" z_s5 .null) := by
  refine al3 (plainFor_of_name aa1) ?_
  intro p e s m below meth c s₁ P hx hby hml hrt hlk hown hnm hZ X0 e0 hP
  have N0 := Fr.nil n0
  have K0 := Keep.refl h0 [o0]
  have hml' : c.maxLocals = 2 := hml
  refine ac4 (eo2 m o0) ?_
  show aa0 p e below P (s₁.setTop (mkF m 0 #[.val (.ref o0), .unset] []))
  refine az0 X0 hx (hb hby cp9) (z := (0 : Int32)) rfl ?_
  refine ag4 X0 hx (hb hby cq9) (l' := #[.val (.ref o0), .val (.int (0 : Int32))]) rfl ?_
  refine ae1 X0 hx (hb hby cr9) rfl ?_
  refine ae0 X0 hx (hb hby cs9) rfl rfl ?_
  refine au0 X0 hx hZ hown (host := "") (Or.inl (z_w hw 82 rfl)) Via.refl e0 af3 (hb hby ct9) (fun T1 X1 e1 => ?_)
  refine au3 X1 hx (pc' := 28) (hb hby cu9) (flt (by decide : ¬ ((0 : Int32) < (0 : Int32)))).2.1 ?_
  refine ae0 X1 hx (hb hby cv7) rfl rfl ?_
  refine az0 X1 hx (hb hby cw7) (z := (0 : Int32)) rfl ?_
  refine am4 X1 hx hZ hown (host := "") (Or.inl (z_w hw 82 rfl)) Via.refl e1 af3 E_o0 (Or.inl (z_w hw 83 rfl)) (z_w hw 54 rfl) (ty := .int) (by decide) (hb hby cx7) (fun T2 h2 X2 e2 W2 => ?_)
  have N2 := Fr.snoc X2 N0 ah2
  have K2 := Keep.wr K0 W2 (Or.inl (List.mem_of_getElem? (i := 0) rfl))
  have F2 := af3.same W2
  refine ae0 X2 hx (hb hby cy7) rfl rfl ?_
  refine cy4 X2 hx (hb hby cz7) ?_
  have G3 := (av2.other W2 (Or.inr (slot_ne (Or.inl (z_w hw 85 rfl)) (Or.inl (z_w hw 83 rfl)) (by decide) (t := (.object z_s2)) (t' := .int) (by decide) (by decide))))
  have G4 := (E_o0.wr W2)
  refine am4 X2 hx hZ hown (host := "") (Or.inl (z_w hw 84 rfl)) Via.refl e2 G3 G4 (Or.inl (z_w hw 85 rfl)) (z_w hw 54 rfl) (ty := (.object z_s2)) (by decide) (hb hby c8) (fun T5 h5 X5 e5 W5 => ?_)
  have N5 := Fr.snoc X5 N2 ah2
  have K5 := Keep.wr K2 W5 (Or.inl (List.mem_of_getElem? (i := 0) rfl))
  have F5 := G3.same W5
  have G6 := (G4.wr W5)
  have G7 := (F2.other W5 (Or.inr (slot_ne (Or.inl (z_w hw 83 rfl)) (Or.inl (z_w hw 85 rfl)) (by decide) (t := .int) (t' := (.object z_s2)) (by decide) (by decide))))
  have hfin : ((fun (v : Option Value) (h : Heap) (L : List Loc) => v = none ∧ Fr n0 L ∧ Keep h0 h [o0] ∧ Exa Z h o0 z_s0 ∧ Fld Z h o0 z_s0 "size" "I" (.int (0 : Int32)) ∧ Fld Z h o0 z_s0 "last" z_s5 .null)) none h5 _ := ⟨rfl, N5, K5, G6, G7, F5⟩
  refine bj0 X5 hx hlk hP hrt (hb hby ca8) (by decide) (by decide) ?_
  rw [e5]; exact hfin
theorem el0 (m : MethodId) (o0 : Addr) : entryFrame m #[(.ref o0)] 2 = mkF m 0 #[.val (.ref o0), .unset] [] := by first | (simp [entryFrame, mkF, argsToLocals, Value.category]; done) | rfl
set_option maxRecDepth 65536 in
set_option maxHeartbeats 40000000 in
theorem ep2 (l : Launch) (Z : State) (a0 : Array Value) (hw : ∀ d ∈ tables_1, d.before a0 Z = true) (ws : List Jvm.Cond) (o0 : Addr) (aj0 : Addr) (ag0 : Addr) (an0 : Addr) (av1 : Int32) (h0 : Heap) (n0 : Nat) (Z0 : n0 ≤ h0.size) (E_o0 : Exa Z h0 o0 z_s0) (af3 : Fld Z h0 o0 z_s0 "size" "I" (.int (0 : Int32))) (av2 : Fld Z h0 o0 z_s0 "last" z_s5 .null) (ar2 : Fld Z h0 o0 z_s0 "names" z_s8 (.ref aj0)) (aw2 : Fld Z h0 o0 z_s0 "counts" "[I" (.ref ag0)) (ah4 : Fld Z h0 o0 z_s0 "used" "[I" (.ref an0)) (ap2 : Fld Z h0 o0 z_s0 "lastSlot" "I" (.int av1)) (ah2 : n0 ≤ o0) :
    ab3 l Z (⟨z_s0, "clear", "()V"⟩ : MethodName) prog_128_method_3_code 2 none ws ({ frames := 0, cells := 0, slots := 0, locals := 0 } : Room) #[(.ref o0)] h0 (fun (v : Option Value) (h : Heap) (L : List Loc) => v = none ∧ Fr n0 L ∧ Keep h0 h [o0] ∧ Exa Z h o0 z_s0 ∧ Fld Z h o0 z_s0 "size" "I" (.int (0 : Int32)) ∧ Fld Z h o0 z_s0 "last" z_s5 .null ∧ Fld Z h o0 z_s0 "names" z_s8 (.ref aj0) ∧ Fld Z h o0 z_s0 "counts" "[I" (.ref ag0) ∧ Fld Z h o0 z_s0 "used" "[I" (.ref an0) ∧ Fld Z h o0 z_s0 "lastSlot" "I" (.int av1)) := by
  refine al3 (plainFor_of_name aa1) ?_
  intro p e s m below meth c s₁ P hx hby hml hrt hlk hown hnm hZ X0 e0 hP
  have N0 := Fr.nil n0
  have K0 := Keep.refl h0 [o0]
  have hml' : c.maxLocals = 2 := hml
  refine ac4 (el0 m o0) ?_
  show aa0 p e below P (s₁.setTop (mkF m 0 #[.val (.ref o0), .unset] []))
  refine az0 X0 hx (hb hby cp9) (z := (0 : Int32)) rfl ?_
  refine ag4 X0 hx (hb hby cq9) (l' := #[.val (.ref o0), .val (.int (0 : Int32))]) rfl ?_
  refine ae1 X0 hx (hb hby cr9) rfl ?_
  refine ae0 X0 hx (hb hby cs9) rfl rfl ?_
  refine au0 X0 hx hZ hown (host := "") (Or.inl (z_w hw 82 rfl)) Via.refl e0 af3 (hb hby ct9) (fun T1 X1 e1 => ?_)
  refine au3 X1 hx (pc' := 28) (hb hby cu9) (flt (by decide : ¬ ((0 : Int32) < (0 : Int32)))).2.1 ?_
  refine ae0 X1 hx (hb hby cv7) rfl rfl ?_
  refine az0 X1 hx (hb hby cw7) (z := (0 : Int32)) rfl ?_
  refine am4 X1 hx hZ hown (host := "") (Or.inl (z_w hw 82 rfl)) Via.refl e1 af3 E_o0 (Or.inl (z_w hw 83 rfl)) (z_w hw 54 rfl) (ty := .int) (by decide) (hb hby cx7) (fun T2 h2 X2 e2 W2 => ?_)
  have N2 := Fr.snoc X2 N0 ah2
  have K2 := Keep.wr K0 W2 (Or.inl (List.mem_of_getElem? (i := 0) rfl))
  have F2 := af3.same W2
  refine ae0 X2 hx (hb hby cy7) rfl rfl ?_
  refine cy4 X2 hx (hb hby cz7) ?_
  have G3 := (av2.other W2 (Or.inr (slot_ne (Or.inl (z_w hw 85 rfl)) (Or.inl (z_w hw 83 rfl)) (by decide) (t := (.object z_s2)) (t' := .int) (by decide) (by decide))))
  have G4 := (E_o0.wr W2)
  refine am4 X2 hx hZ hown (host := "") (Or.inl (z_w hw 84 rfl)) Via.refl e2 G3 G4 (Or.inl (z_w hw 85 rfl)) (z_w hw 54 rfl) (ty := (.object z_s2)) (by decide) (hb hby c8) (fun T5 h5 X5 e5 W5 => ?_)
  have N5 := Fr.snoc X5 N2 ah2
  have K5 := Keep.wr K2 W5 (Or.inl (List.mem_of_getElem? (i := 0) rfl))
  have F5 := G3.same W5
  have G6 := (G4.wr W5)
  have G7 := (F2.other W5 (Or.inr (slot_ne (Or.inl (z_w hw 83 rfl)) (Or.inl (z_w hw 85 rfl)) (by decide) (t := .int) (t' := (.object z_s2)) (by decide) (by decide))))
  have G8 := ((ar2.other W2 (Or.inr (slot_ne (Or.inl (z_w hw 63 rfl)) (Or.inl (z_w hw 83 rfl)) (by decide) (t := (.array (.object z_s2))) (t' := .int) (by decide) (by decide)))).other W5 (Or.inr (slot_ne (Or.inl (z_w hw 63 rfl)) (Or.inl (z_w hw 85 rfl)) (by decide) (t := (.array (.object z_s2))) (t' := (.object z_s2)) (by decide) (by decide))))
  have G9 := ((aw2.other W2 (Or.inr (slot_ne (Or.inl (z_w hw 66 rfl)) (Or.inl (z_w hw 83 rfl)) (by decide) (t := (.array .int)) (t' := .int) (by decide) (by decide)))).other W5 (Or.inr (slot_ne (Or.inl (z_w hw 66 rfl)) (Or.inl (z_w hw 85 rfl)) (by decide) (t := (.array .int)) (t' := (.object z_s2)) (by decide) (by decide))))
  have G10 := ((ah4.other W2 (Or.inr (slot_ne (Or.inl (z_w hw 68 rfl)) (Or.inl (z_w hw 83 rfl)) (by decide) (t := (.array .int)) (t' := .int) (by decide) (by decide)))).other W5 (Or.inr (slot_ne (Or.inl (z_w hw 68 rfl)) (Or.inl (z_w hw 85 rfl)) (by decide) (t := (.array .int)) (t' := (.object z_s2)) (by decide) (by decide))))
  have G11 := ((ap2.other W2 (Or.inr (slot_ne (Or.inl (z_w hw 118 rfl)) (Or.inl (z_w hw 83 rfl)) (by decide) (t := .int) (t' := .int) (by decide) (by decide)))).other W5 (Or.inr (slot_ne (Or.inl (z_w hw 118 rfl)) (Or.inl (z_w hw 85 rfl)) (by decide) (t := .int) (t' := (.object z_s2)) (by decide) (by decide))))
  have hfin : ((fun (v : Option Value) (h : Heap) (L : List Loc) => v = none ∧ Fr n0 L ∧ Keep h0 h [o0] ∧ Exa Z h o0 z_s0 ∧ Fld Z h o0 z_s0 "size" "I" (.int (0 : Int32)) ∧ Fld Z h o0 z_s0 "last" z_s5 .null ∧ Fld Z h o0 z_s0 "names" z_s8 (.ref aj0) ∧ Fld Z h o0 z_s0 "counts" "[I" (.ref ag0) ∧ Fld Z h o0 z_s0 "used" "[I" (.ref an0) ∧ Fld Z h o0 z_s0 "lastSlot" "I" (.int av1))) none h5 _ := ⟨rfl, N5, K5, G6, G7, F5, G8, G9, G10, G11⟩
  refine bj0 X5 hx hlk hP hrt (hb hby ca8) (by decide) (by decide) ?_
  rw [e5]; exact hfin
theorem em0 : decode prog_128_method_6_code 0 = .ok (.iload_n 0, 1) := by decide +kernel
theorem en0 : decode prog_128_method_6_code 1 = .ok (.iload_n 0, 1) := by decide +kernel
theorem eo0 : decode prog_128_method_6_code 2 = .ok (.bipush 16, 2) := by decide +kernel
theorem ep0 : decode prog_128_method_6_code 4 = .ok (.iushr, 1) := by decide +kernel
theorem eq0 : decode prog_128_method_6_code 5 = .ok (.ixor, 1) := by decide +kernel
theorem er0 : decode prog_128_method_6_code 6 = .ok (.ireturn, 1) := by decide +kernel
theorem er2 (m : MethodId) (p0 : Int32) : entryFrame m #[(.int p0)] 1 = mkF m 0 #[.val (.int p0)] [] := by first | (simp [entryFrame, mkF, argsToLocals, Value.category]; done) | rfl
def ap9 (p0 : Int32) : Int32 := (p0 ^^^ ((p0.toUInt32 >>> ((16 : Int32) &&& 31).toUInt32).toInt32))
set_option maxRecDepth 65536 in
set_option maxHeartbeats 40000000 in
theorem cd0 (l : Launch) (Z : State) (a0 : Array Value) (hw : ∀ d ∈ tables_1, d.before a0 Z = true) (ws : List Jvm.Cond) (p0 : Int32)  (h0 : Heap) (n0 : Nat) (Z0 : n0 ≤ h0.size)  :
    ab3 l Z (⟨z_s0, "spread", "(I)I"⟩ : MethodName) prog_128_method_6_code 1 (some .int) ws ({ frames := 0, cells := 0, slots := 0, locals := 0 } : Room) #[(.int p0)] h0 (fun (v : Option Value) (h : Heap) (L : List Loc) => v = some (.int (ap9 p0)) ∧ Fr n0 L ∧ h = h0) := by
  refine al3 (plainFor_of_name aa1) ?_
  intro p e s m below meth c s₁ P hx hby hml hrt hlk hown hnm hZ X0 e0 hP
  have N0 := Fr.nil n0
  have K0 := Keep.refl h0 []
  have hml' : c.maxLocals = 1 := hml
  refine ac4 (er2 m p0) ?_
  show aa0 p e below P (s₁.setTop (mkF m 0 #[.val (.int p0)] []))
  refine ae1 X0 hx (hb hby em0) rfl ?_
  refine ae1 X0 hx (hb hby en0) rfl ?_
  refine bu4 X0 hx (hb hby eo0) (z := (16 : Int32)) rfl ?_
  refine dt4 X0 hx (hb hby ep0) (z := ((p0.toUInt32 >>> ((16 : Int32) &&& 31).toUInt32).toInt32)) rfl ?_
  refine ex4 X0 hx (hb hby eq0) (z := (p0 ^^^ ((p0.toUInt32 >>> ((16 : Int32) &&& 31).toUInt32).toInt32))) rfl ?_
  refine ao7 X0 hx hlk hP hrt (hb hby er0) (by decide) (by decide) ⟨congrArg (fun z => some (Value.int z)) ?_, N0, e0⟩
  exact (show ap9 p0 = (p0 ^^^ ((p0.toUInt32 >>> ((16 : Int32) &&& 31).toUInt32).toInt32)) from rfl).symm
theorem dn6 : decode jdk_43_method_21_code 0 = .ok (.aload_n 0, 1) := by decide +kernel
theorem do6 : decode jdk_43_method_21_code 1 = .ok (.arraylength, 1) := by decide +kernel
theorem dp6 : decode jdk_43_method_21_code 2 = .ok (.lookupswitch 40 #[(0, 26), (1, 30)], 26) := by decide +kernel
theorem dr1 : decode jdk_43_method_21_code 32 = .ok (.aload_n 0, 1) := by decide +kernel
theorem ds1 : decode jdk_43_method_21_code 33 = .ok (.iconst 0, 1) := by decide +kernel
theorem dt1 : decode jdk_43_method_21_code 34 = .ok (.baload, 1) := by decide +kernel
theorem du1 : decode jdk_43_method_21_code 35 = .ok (.sipush 255, 3) := by decide +kernel
theorem dv1 : decode jdk_43_method_21_code 38 = .ok (.iand, 1) := by decide +kernel
theorem dw1 : decode jdk_43_method_21_code 39 = .ok (.goto 12, 3) := by decide +kernel
theorem dx1 : decode jdk_43_method_21_code 51 = .ok (.ireturn, 1) := by decide +kernel
theorem es2 (m : MethodId) (o0 : Addr) : entryFrame m #[(.ref o0)] 1 = mkF m 0 #[.val (.ref o0)] [] := by first | (simp [entryFrame, mkF, argsToLocals, Value.category]; done) | rfl
def ak1 (c0 : Int32) : Int32 := (c0 &&& (255 : Int32))
set_option maxRecDepth 65536 in
set_option maxHeartbeats 40000000 in
theorem en4 (l : Launch) (Z : State) (a0 : Array Value) (hw : ∀ d ∈ tables_1, d.before a0 Z = true) (ws : List Jvm.Cond) (o0 : Addr) (c0 : Int32) (h0 : Heap) (n0 : Nat) (Z0 : n0 ≤ h0.size) (A_o0 : ax2 Z h0 o0 [c0]) :
    ab3 l Z (⟨"java/lang/StringLatin1", "hashCode", "([B)I"⟩ : MethodName) jdk_43_method_21_code 1 (some .int) ws ({ frames := 0, cells := 0, slots := 0, locals := 0 } : Room) #[(.ref o0)] h0 (fun (v : Option Value) (h : Heap) (L : List Loc) => v = some (.int (ak1 c0)) ∧ Fr n0 L ∧ h = h0) := by
  refine al3 (plainFor_of_name ax7) ?_
  intro p e s m below meth c s₁ P hx hby hml hrt hlk hown hnm hZ X0 e0 hP
  have N0 := Fr.nil n0
  have K0 := Keep.refl h0 []
  have hml' : c.maxLocals = 1 := hml
  refine ac4 (es2 m o0) ?_
  show aa0 p e below P (s₁.setTop (mkF m 0 #[.val (.ref o0)] []))
  refine ae0 X0 hx (hb hby dn6) rfl rfl ?_
  refine cq3 X0 hx hZ e0 A_o0 (z := (1 : Int32)) rfl (hb hby do6) ?_
  refine ez1 X0 hx (pc := 2) (pc' := 32) (a := 1) (off := 30) (k := (1 : Int32)) (hb hby dp6) (by decide +kernel) (by decide +kernel) (by decide) (by decide) ?_
  show aa0 p e below P (s₁.setTop (mkF m 32 #[.val (.ref o0)] []))
  refine ae0 X0 hx (hb hby dr1) rfl rfl ?_
  refine az0 X0 hx (hb hby ds1) (z := (0 : Int32)) rfl ?_
  refine cc7 X0 hx hZ e0 A_o0 (j := (0 : Int32)) (v := c0) (i := 0) (by decide) rfl (hb hby dt1) ?_
  refine be8 X0 hx (hb hby du1) (z := (255 : Int32)) rfl ?_
  refine az7 X0 hx (hb hby dv1) (z := (c0 &&& (255 : Int32))) rfl ?_
  refine ao4 X0 hx (pc' := 51) (hb hby dw1) ?_
  refine ao7 X0 hx hlk hP hrt (hb hby dx1) (by decide) (by decide) ⟨congrArg (fun z => some (Value.int z)) ?_, N0, e0⟩
  exact (show ak1 c0 = (c0 &&& (255 : Int32)) from rfl).symm
theorem dq6 : decode jdk_43_method_13_code 0 = .ok (.aload_n 0, 1) := by decide +kernel
theorem dr6 : decode jdk_43_method_13_code 1 = .ok (.arraylength, 1) := by decide +kernel
theorem ds6 : decode jdk_43_method_13_code 2 = .ok (.aload_n 1, 1) := by decide +kernel
theorem dt6 : decode jdk_43_method_13_code 3 = .ok (.arraylength, 1) := by decide +kernel
theorem du6 : decode jdk_43_method_13_code 4 = .ok (.if_icmp .ne 30, 3) := by decide +kernel
theorem dv6 : decode jdk_43_method_13_code 7 = .ok (.iconst 0, 1) := by decide +kernel
theorem dw6 : decode jdk_43_method_13_code 8 = .ok (.istore_n 2, 1) := by decide +kernel
theorem cb8 : decode jdk_43_method_13_code 9 = .ok (.iload_n 2, 1) := by decide +kernel
theorem cs5 : decode jdk_43_method_13_code 10 = .ok (.aload_n 0, 1) := by decide +kernel
theorem ct5 : decode jdk_43_method_13_code 11 = .ok (.arraylength, 1) := by decide +kernel
theorem cu5 : decode jdk_43_method_13_code 12 = .ok (.if_icmp .ge 20, 3) := by decide +kernel
theorem dy1 : decode jdk_43_method_13_code 15 = .ok (.aload_n 0, 1) := by decide +kernel
theorem dz1 : decode jdk_43_method_13_code 16 = .ok (.iload_n 2, 1) := by decide +kernel
theorem d2 : decode jdk_43_method_13_code 17 = .ok (.baload, 1) := by decide +kernel
theorem da2 : decode jdk_43_method_13_code 18 = .ok (.aload_n 1, 1) := by decide +kernel
theorem db2 : decode jdk_43_method_13_code 19 = .ok (.iload_n 2, 1) := by decide +kernel
theorem dc2 : decode jdk_43_method_13_code 20 = .ok (.baload, 1) := by decide +kernel
theorem cv5 : decode jdk_43_method_13_code 21 = .ok (.if_icmp .eq 5, 3) := by decide +kernel
theorem dd2 : decode jdk_43_method_13_code 26 = .ok (.iinc 2 1, 3) := by decide +kernel
theorem de2 : decode jdk_43_method_13_code 29 = .ok (.goto (-20), 3) := by decide +kernel
theorem df2 : decode jdk_43_method_13_code 32 = .ok (.iconst 1, 1) := by decide +kernel
theorem dg2 : decode jdk_43_method_13_code 33 = .ok (.ireturn, 1) := by decide +kernel
theorem dh2 : decode jdk_43_method_13_code 24 = .ok (.iconst 0, 1) := by decide +kernel
theorem di2 : decode jdk_43_method_13_code 25 = .ok (.ireturn, 1) := by decide +kernel
theorem et2 (m : MethodId) (o0 : Addr) (o1 : Addr) : entryFrame m #[(.ref o0), (.ref o1)] 3 = mkF m 0 #[.val (.ref o0), .val (.ref o1), .unset] [] := by first | (simp [entryFrame, mkF, argsToLocals, Value.category]; done) | rfl
def ce0 (c0 : Int32) (d0 : Int32) : Int32 := (if c0 = d0 then (1 : Int32) else (0 : Int32))
set_option maxRecDepth 65536 in
set_option maxHeartbeats 40000000 in
theorem eo4 (l : Launch) (Z : State) (a0 : Array Value) (hw : ∀ d ∈ tables_1, d.before a0 Z = true) (ws : List Jvm.Cond) (o0 : Addr) (o1 : Addr) (c0 : Int32) (d0 : Int32) (h0 : Heap) (n0 : Nat) (Z0 : n0 ≤ h0.size) (A_o0 : ax2 Z h0 o0 [c0]) (A_o1 : ax2 Z h0 o1 [d0]) :
    ab3 l Z (⟨"java/lang/StringLatin1", "equals", "([B[B)Z"⟩ : MethodName) jdk_43_method_13_code 3 (some .boolean) ws ({ frames := 0, cells := 0, slots := 0, locals := 0 } : Room) #[(.ref o0), (.ref o1)] h0 (fun (v : Option Value) (h : Heap) (L : List Loc) => v = some (.int (ce0 c0 d0)) ∧ Fr n0 L ∧ h = h0) := by
  refine al3 (plainFor_of_name ax7) ?_
  intro p e s m below meth c s₁ P hx hby hml hrt hlk hown hnm hZ X0 e0 hP
  have N0 := Fr.nil n0
  have K0 := Keep.refl h0 []
  have hml' : c.maxLocals = 3 := hml
  refine ac4 (et2 m o0 o1) ?_
  show aa0 p e below P (s₁.setTop (mkF m 0 #[.val (.ref o0), .val (.ref o1), .unset] []))
  refine ae0 X0 hx (hb hby dq6) rfl rfl ?_
  refine cq3 X0 hx hZ e0 A_o0 (z := (1 : Int32)) rfl (hb hby dr6) ?_
  refine ae0 X0 hx (hb hby ds6) rfl rfl ?_
  refine cq3 X0 hx hZ e0 A_o1 (z := (1 : Int32)) rfl (hb hby dt6) ?_
  refine a4 X0 hx (hb hby du6) (teq (by decide : (1 : Int32) = (1 : Int32))).2 ?_
  refine az0 X0 hx (hb hby dv6) (z := (0 : Int32)) rfl ?_
  refine ag4 X0 hx (hb hby dw6) (l' := #[.val (.ref o0), .val (.ref o1), .val (.int (0 : Int32))]) rfl ?_
  refine ae1 X0 hx (hb hby cb8) rfl ?_
  refine ae0 X0 hx (hb hby cs5) rfl rfl ?_
  refine cq3 X0 hx hZ e0 A_o0 (z := (1 : Int32)) rfl (hb hby ct5) ?_
  refine a4 X0 hx (hb hby cu5) (tlt (by decide : (0 : Int32) < (1 : Int32))).2.1 ?_
  refine ae0 X0 hx (hb hby dy1) rfl rfl ?_
  refine ae1 X0 hx (hb hby dz1) rfl ?_
  refine cc7 X0 hx hZ e0 A_o0 (j := (0 : Int32)) (v := c0) (i := 0) (by decide) rfl (hb hby d2) ?_
  refine ae0 X0 hx (hb hby da2) rfl rfl ?_
  refine ae1 X0 hx (hb hby db2) rfl ?_
  refine cc7 X0 hx hZ e0 A_o1 (j := (0 : Int32)) (v := d0) (i := 0) (by decide) rfl (hb hby dc2) ?_
  by_cases hc1 : c0 = d0
  · refine au3 X0 hx (pc' := 26) (hb hby cv5) (teq hc1).1 ?_
    refine ey4 X0 hx (hb hby dd2) rfl (l' := #[.val (.ref o0), .val (.ref o1), .val (.int (1 : Int32))]) rfl ?_
    refine ao4 X0 hx (pc' := 9) (hb hby de2) ?_
    refine ae1 X0 hx (hb hby cb8) rfl ?_
    refine ae0 X0 hx (hb hby cs5) rfl rfl ?_
    refine cq3 X0 hx hZ e0 A_o0 (z := (1 : Int32)) rfl (hb hby ct5) ?_
    refine au3 X0 hx (pc' := 32) (hb hby cu5) (flt (by decide : ¬ ((1 : Int32) < (1 : Int32)))).2.1 ?_
    refine az0 X0 hx (hb hby df2) (z := (1 : Int32)) rfl ?_
    refine bd1 X0 hx hlk hP (t := .boolean) (by simp) hrt (hb hby dg2) (by decide) (by decide) ⟨congrArg (fun z => some (Value.int z)) ?_, N0, e0⟩
    exact (show ce0 c0 d0 = (1 : Int32) from (if_pos hc1).trans (rfl)).symm
  · refine a4 X0 hx (hb hby cv5) (feq hc1).1 ?_
    refine az0 X0 hx (hb hby dh2) (z := (0 : Int32)) rfl ?_
    refine bd1 X0 hx hlk hP (t := .boolean) (by simp) hrt (hb hby di2) (by decide) (by decide) ⟨congrArg (fun z => some (Value.int z)) ?_, N0, e0⟩
    exact (show ce0 c0 d0 = (0 : Int32) from (if_neg hc1).trans (rfl)).symm
theorem dx6 : decode jdk_42_method_66_code 0 = .ok (.aload_n 0, 1) := by decide +kernel
theorem dy6 : decode jdk_42_method_66_code 1 = .ok (.aload_n 1, 1) := by decide +kernel
theorem dz6 : decode jdk_42_method_66_code 2 = .ok (.if_acmp .ne 5, 3) := by decide +kernel
theorem d7 : decode jdk_42_method_66_code 7 = .ok (.aload_n 1, 1) := by decide +kernel
theorem da7 : decode jdk_42_method_66_code 8 = .ok (.instanceof 10, 3) := by decide +kernel
theorem dj2 : decode jdk_42_method_66_code 11 = .ok (.ifCond .eq 43, 3) := by decide +kernel
theorem dk2 : decode jdk_42_method_66_code 14 = .ok (.aload_n 1, 1) := by decide +kernel
theorem dl2 : decode jdk_42_method_66_code 15 = .ok (.checkcast 10, 3) := by decide +kernel
theorem dm2 : decode jdk_42_method_66_code 18 = .ok (.astore_n 2, 1) := by decide +kernel
theorem dn2 : decode jdk_42_method_66_code 19 = .ok (.getstatic 38, 3) := by decide +kernel
theorem do2 : decode jdk_42_method_66_code 22 = .ok (.ifCond .eq 14, 3) := by decide +kernel
theorem dp2 : decode jdk_42_method_66_code 25 = .ok (.aload_n 0, 1) := by decide +kernel
theorem dq2 : decode jdk_42_method_66_code 26 = .ok (.getfield 15, 3) := by decide +kernel
theorem dr2 : decode jdk_42_method_66_code 29 = .ok (.aload_n 2, 1) := by decide +kernel
theorem ds2 : decode jdk_42_method_66_code 30 = .ok (.getfield 15, 3) := by decide +kernel
theorem dt2 : decode jdk_42_method_66_code 33 = .ok (.if_icmp .ne 21, 3) := by decide +kernel
theorem du2 : decode jdk_42_method_66_code 36 = .ok (.aload_n 0, 1) := by decide +kernel
theorem dv2 : decode jdk_42_method_66_code 37 = .ok (.getfield 9, 3) := by decide +kernel
theorem dw2 : decode jdk_42_method_66_code 40 = .ok (.aload_n 2, 1) := by decide +kernel
theorem dx2 : decode jdk_42_method_66_code 41 = .ok (.getfield 9, 3) := by decide +kernel
theorem dy2 : decode jdk_42_method_66_code 44 = .ok (.invokestatic 541, 3) := by decide +kernel
theorem cf7 : parseMethodDescriptor "([B[B)Z" = some ⟨[(.array .byte), (.array .byte)], some .boolean⟩ := by decide +kernel
theorem cw5 : decode jdk_42_method_66_code 47 = .ok (.ifCond .eq 7, 3) := by decide +kernel
theorem dz2 : decode jdk_42_method_66_code 54 = .ok (.iconst 0, 1) := by decide +kernel
theorem cx5 : decode jdk_42_method_66_code 55 = .ok (.ireturn, 1) := by decide +kernel
theorem d3 : decode jdk_42_method_66_code 50 = .ok (.iconst 1, 1) := by decide +kernel
theorem da3 : decode jdk_42_method_66_code 51 = .ok (.goto 4, 3) := by decide +kernel
theorem eu2 (m : MethodId) (o0 : Addr) (o1 : Addr) : entryFrame m #[(.ref o0), (.ref o1)] 3 = mkF m 0 #[.val (.ref o0), .val (.ref o1), .unset] [] := by first | (simp [entryFrame, mkF, argsToLocals, Value.category]; done) | rfl
def ah8 (c0 : Int32) (d0 : Int32) (ab0 : Int32) : Int32 := (if (ce0 c0 d0) = (0 : Int32) then (0 : Int32) else (1 : Int32))
set_option maxRecDepth 65536 in
set_option maxHeartbeats 40000000 in
theorem cf2 (l : Launch) (Z : State) (a0 : Array Value) (hw : ∀ d ∈ tables_1, d.before a0 Z = true) (ws : List Jvm.Cond) (o0 : Addr) (o1 : Addr) (c0 : Int32) (d0 : Int32) (ai9 : Addr) (am0 : Addr) (ab0 : Int32) (h0 : Heap) (n0 : Nat) (Z0 : n0 ≤ h0.size) (E_o0 : Exa Z h0 o0 z_s2) (E_o1 : Exa Z h0 o1 z_s2) (bk2 : Fld Z h0 o0 z_s2 "value" "[B" (.ref ai9)) (bk1 : Fld Z h0 o0 z_s2 "coder" "B" (.int (0 : Int32))) (ag3 : Fld Z h0 o1 z_s2 "value" "[B" (.ref am0)) (ah3 : Fld Z h0 o1 z_s2 "coder" "B" (.int (0 : Int32))) (ar0 : Sta Z h0 z_s2 "COMPACT_STRINGS" "Z" (.int ab0)) (ck2 : ax2 Z h0 ai9 [c0]) (aj2 : ax2 Z h0 am0 [d0]) (ap0 : o0 ≠ o1) (hnz : ¬ (ab0 = (0 : Int32))) :
    ab3 l Z (⟨z_s2, "equals", "(Ljava/lang/Object;)Z"⟩ : MethodName) jdk_42_method_66_code 3 (some .boolean) ws ({ frames := 1, cells := 0, slots := 0, locals := 14 } : Room) #[(.ref o0), (.ref o1)] h0 (fun (v : Option Value) (h : Heap) (L : List Loc) => v = some (.int (ah8 c0 d0 ab0)) ∧ Fr n0 L ∧ h = h0) := by
  refine al3 (plainFor_of_name ac7) ?_
  intro p e s m below meth c s₁ P hx hby hml hrt hlk hown hnm hZ X0 e0 hP
  have N0 := Fr.nil n0
  have K0 := Keep.refl h0 []
  have hml' : c.maxLocals = 3 := hml
  refine ac4 (eu2 m o0 o1) ?_
  show aa0 p e below P (s₁.setTop (mkF m 0 #[.val (.ref o0), .val (.ref o1), .unset] []))
  refine ae0 X0 hx (hb hby dx6) rfl rfl ?_
  refine ae0 X0 hx (hb hby dy6) rfl rfl ?_
  refine bi1 X0 hx rfl rfl (pc' := 7) (same := false) (hb hby dz6) (decide_eq_false fun q => ap0 (Value.ref.inj q)) ?_
  refine ae0 X0 hx (hb hby d7) rfl rfl ?_
  obtain ⟨T1, X1, e1, st1⟩ := instY X0 hx hZ hown (z_w hw 9 rfl) e0 (Ins.self E_o1) (g := (mkF m 8 #[.val (.ref o0), .val (.ref o1), .unset] [(.ref o1)])) rfl rfl (hb hby da7)
  refine an1 (fun _ => st1 _) ?_
  show aa0 p e below P (T1.setTop (mkF m 11 #[.val (.ref o0), .val (.ref o1), .unset] [(.int (1 : Int32))]))
  refine aq7 X1 hx (hb hby dj2) ((if0 _ _).trans (feq (by decide : ¬ ((1 : Int32) = (0 : Int32)))).1) ?_
  refine ae0 X1 hx (hb hby dk2) rfl rfl ?_
  obtain ⟨T2, X2, e2, st2⟩ := castY X1 hx hZ hown (z_w hw 9 rfl) e1 (Ins.self E_o1) (g := (mkF m 15 #[.val (.ref o0), .val (.ref o1), .unset] [(.ref o1)])) rfl rfl (hb hby dl2)
  refine an1 (fun _ => st2 _) ?_
  show aa0 p e below P (T2.setTop (mkF m 18 #[.val (.ref o0), .val (.ref o1), .unset] [(.ref o1)]))
  refine bj2 X2 hx (hb hby dm2) rfl (l' := #[.val (.ref o0), .val (.ref o1), .val (.ref o1)]) rfl ?_
  refine dw0 X2 hx hZ hown (host := "") (Or.inl (z_w hw 4 rfl)) Via.refl e2 ar0 (hb hby dn2) (fun T3 X3 e3 => ?_)
  refine aq7 X3 hx (hb hby do2) ((if0 _ _).trans (feq hnz).1) ?_
  refine ae0 X3 hx (hb hby dp2) rfl rfl ?_
  refine au0 X3 hx hZ hown (host := "") (Or.inl (z_w hw 24 rfl)) Via.refl e3 bk1 (hb hby dq2) (fun T4 X4 e4 => ?_)
  refine ae0 X4 hx (hb hby dr2) rfl rfl ?_
  refine au0 X4 hx hZ hown (host := "") (Or.inl (z_w hw 24 rfl)) Via.refl e4 ah3 (hb hby ds2) (fun T5 X5 e5 => ?_)
  refine a4 X5 hx (hb hby dt2) (teq (by decide : (0 : Int32) = (0 : Int32))).2 ?_
  refine ae0 X5 hx (hb hby du2) rfl rfl ?_
  refine au0 X5 hx hZ hown (host := "") (Or.inl (z_w hw 22 rfl)) Via.refl e5 bk2 (hb hby dv2) (fun T6 X6 e6 => ?_)
  refine ae0 X6 hx (hb hby dw2) rfl rfl ?_
  refine au0 X6 hx hZ hown (host := "") (Or.inl (z_w hw 22 rfl)) Via.refl e6 ag3 (hb hby dx2) (fun T7 X7 e7 => ?_)
  refine as5 X7 hx hZ (y := (⟨"java/lang/StringLatin1", "equals", "([B[B)Z"⟩ : MethodName)) hown (z_w hw 129 rfl) (z_w hw 130 rfl) (z_w hw 7 rfl) (z_w hw 131 rfl) (eo4 l Z a0 hw [] ai9 am0 c0 d0 h0 n0 (Nat.le_trans Z0 K0.1) ck2 aj2) 0 e7 hml' (argsL := [(.ref ai9), (.ref am0)]) (rest := []) (lenOf cf7 rfl) (hb hby dy2) (fun r8 T8 L8 X8 hQ8 => ?_)
  obtain ⟨rfl, Nq8, eq8⟩ := hQ8
  have N8 := Fr.app N0 Nq8
  show aa0 p e below P (T8.setTop (mkF m 47 #[.val (.ref o0), .val (.ref o1), .val (.ref o1)] [(.int (ce0 c0 d0))]))
  by_cases hc9 : (ce0 c0 d0) = (0 : Int32)
  · refine al7 X8 hx (pc' := 54) (hb hby cw5) ((if0 _ _).trans (teq hc9).1) ?_
    refine az0 X8 hx (hb hby dz2) (z := (0 : Int32)) rfl ?_
    refine bd1 X8 hx hlk hP (t := .boolean) (by simp) hrt (hb hby cx5) (by decide) (by decide) ⟨congrArg (fun z => some (Value.int z)) ?_, N8, eq8⟩
    exact (show ah8 c0 d0 ab0 = (0 : Int32) from (if_pos hc9).trans (rfl)).symm
  · refine aq7 X8 hx (hb hby cw5) ((if0 _ _).trans (feq hc9).1) ?_
    refine az0 X8 hx (hb hby d3) (z := (1 : Int32)) rfl ?_
    refine ao4 X8 hx (pc' := 55) (hb hby da3) ?_
    refine bd1 X8 hx hlk hP (t := .boolean) (by simp) hrt (hb hby cx5) (by decide) (by decide) ⟨congrArg (fun z => some (Value.int z)) ?_, N8, eq8⟩
    exact (show ah8 c0 d0 ab0 = (1 : Int32) from (if_neg hc9).trans (rfl)).symm
theorem db7 : decode jdk_42_method_154_code 0 = .ok (.getstatic 38, 3) := by decide +kernel
theorem dc7 : decode jdk_42_method_154_code 3 = .ok (.ifCond .eq 14, 3) := by decide +kernel
theorem dd7 : decode jdk_42_method_154_code 6 = .ok (.aload_n 0, 1) := by decide +kernel
theorem de7 : decode jdk_42_method_154_code 7 = .ok (.getfield 15, 3) := by decide +kernel
theorem db3 : decode jdk_42_method_154_code 10 = .ok (.ifCond .ne 7, 3) := by decide +kernel
theorem dc3 : decode jdk_42_method_154_code 13 = .ok (.iconst 1, 1) := by decide +kernel
theorem dd3 : decode jdk_42_method_154_code 14 = .ok (.goto 4, 3) := by decide +kernel
theorem de3 : decode jdk_42_method_154_code 18 = .ok (.ireturn, 1) := by decide +kernel
theorem es0 (m : MethodId) (o0 : Addr) : entryFrame m #[(.ref o0)] 1 = mkF m 0 #[.val (.ref o0)] [] := by first | (simp [entryFrame, mkF, argsToLocals, Value.category]; done) | rfl
set_option maxRecDepth 65536 in
set_option maxHeartbeats 40000000 in
theorem ev2 (l : Launch) (Z : State) (a0 : Array Value) (hw : ∀ d ∈ tables_1, d.before a0 Z = true) (ws : List Jvm.Cond) (o0 : Addr) (ab0 : Int32) (h0 : Heap) (n0 : Nat) (Z0 : n0 ≤ h0.size) (bk1 : Fld Z h0 o0 z_s2 "coder" "B" (.int (0 : Int32))) (ar0 : Sta Z h0 z_s2 "COMPACT_STRINGS" "Z" (.int ab0)) (hnz : ¬ (ab0 = (0 : Int32))) :
    ab3 l Z (⟨z_s2, "isLatin1", "()Z"⟩ : MethodName) jdk_42_method_154_code 1 (some .boolean) ws ({ frames := 0, cells := 0, slots := 0, locals := 0 } : Room) #[(.ref o0)] h0 (fun (v : Option Value) (h : Heap) (L : List Loc) => v = some (.int (1 : Int32)) ∧ Fr n0 L ∧ h = h0) := by
  refine al3 (plainFor_of_name ac7) ?_
  intro p e s m below meth c s₁ P hx hby hml hrt hlk hown hnm hZ X0 e0 hP
  have N0 := Fr.nil n0
  have K0 := Keep.refl h0 []
  have hml' : c.maxLocals = 1 := hml
  refine ac4 (es0 m o0) ?_
  show aa0 p e below P (s₁.setTop (mkF m 0 #[.val (.ref o0)] []))
  refine dw0 X0 hx hZ hown (host := "") (Or.inl (z_w hw 4 rfl)) Via.refl e0 ar0 (hb hby db7) (fun T1 X1 e1 => ?_)
  refine aq7 X1 hx (hb hby dc7) ((if0 _ _).trans (feq hnz).1) ?_
  refine ae0 X1 hx (hb hby dd7) rfl rfl ?_
  refine au0 X1 hx hZ hown (host := "") (Or.inl (z_w hw 24 rfl)) Via.refl e1 bk1 (hb hby de7) (fun T2 X2 e2 => ?_)
  refine aq7 X2 hx (hb hby db3) ((if0 _ _).trans (teq (by decide : (0 : Int32) = (0 : Int32))).2) ?_
  refine az0 X2 hx (hb hby dc3) (z := (1 : Int32)) rfl ?_
  refine ao4 X2 hx (pc' := 18) (hb hby dd3) ?_
  exact bd1 X2 hx hlk hP (t := .boolean) (by simp) hrt (hb hby de3) (by decide) (by decide) ⟨rfl, N0, e2⟩
def aj6 (c : Int32) : Int32 := if c = 0 then 1 else 0
def ah0 (j : Int32) : Nat := j.toInt.toNat
def ac0 (c : Int32) : Int32 := (ap9 (ak1 c)) &&& (15 : Int32)
def aw0 (j : Int32) : Int32 := (j + (1 : Int32)) &&& (15 : Int32)
theorem cv9 (x : Int32) : ∃ n : Fin 16, x &&& (15 : Int32) = Int32.ofNat n.val := by
  refine ⟨⟨x.toBitVec.toNat % 16, Nat.mod_lt _ (by decide)⟩, ?_⟩
  rw [← Int32.toBitVec_inj]
  apply BitVec.eq_of_toNat_eq
  show (x.toBitVec &&& 15#32).toNat = (BitVec.ofNat 32 (x.toBitVec.toNat % 16)).toNat
  rw [BitVec.toNat_and, BitVec.toNat_ofNat, BitVec.toNat_ofNat, show 15 % 2 ^ 32 = 2 ^ 4 - 1 from rfl, Nat.and_two_pow_sub_one_eq_mod]
  omega
theorem dz0 : ∀ n : Fin 16, (Int32.ofNat n.val).toInt = (n.val : Int) := by decide +kernel
theorem cf0 (x : Int32) : (x &&& (15 : Int32)).toInt = (ah0 (x &&& (15 : Int32)) : Int) ∧ ah0 (x &&& (15 : Int32)) < 16 := by
  obtain ⟨n, e⟩ := cv9 x
  have q := dz0 n
  unfold ah0
  rw [e, q]
  exact ⟨rfl, n.isLt⟩
theorem ay4 (c : Int32) : (ac0 c).toInt = (ah0 (ac0 c) : Int) := (cf0 _).1
theorem aq9 (c : Int32) : (aw0 c).toInt = (ah0 (aw0 c) : Int) := (cf0 _).1
theorem a5 (c : Int32) : ah0 (ac0 c) < 16 := (cf0 _).2
theorem be5 (c : Int32) : ah0 (aw0 c) < 16 := (cf0 _).2
theorem ew2 : ∀ n : Fin 16, ah0 (aw0 (Int32.ofNat n.val)) = (n.val + 1) % 16 := by decide +kernel
theorem dv4 (x : Int32) : ah0 (aw0 (x &&& (15 : Int32))) = (ah0 (x &&& (15 : Int32)) + 1) % 16 := by
  obtain ⟨n, e⟩ := cv9 x
  have q := dz0 n
  rw [e, ew2 n]
  unfold ah0
  rw [q]; rfl
theorem ca9 (c : Int32) : ah0 (aw0 (ac0 c)) = (ah0 (ac0 c) + 1) % 16 := dv4 _
theorem ep4 (c : Int32) : ah0 (aw0 (aw0 c)) = (ah0 (aw0 c) + 1) % 16 := dv4 _
def ap4 (fd : Bool) (N : List Value) (i : Nat) (s : Addr) : List Value := match fd with | true => N | false => N.set i (.ref s)
def ax0 (fd : Bool) (k : Int32) : Int32 := match fd with | true => k + (1 : Int32) | false => (1 : Int32)
def ai3 (fd : Bool) (N : List Int32) (i : Nat) (k : Int32) : List Int32 := N.set i (ax0 fd k)
def ap6 (fd : Bool) (N : List Int32) (i : Nat) (j : Int32) : List Int32 := match fd with | true => N | false => N.set i j
def ac5 (fd : Bool) (z : Int32) : Int32 := match fd with | true => z | false => z + (1 : Int32)
def bg0 (z : Int32) : Prop := z = 0 ∨ z = 1 ∨ z = 2
theorem cw1 {z : Int32} (h : bg0 z) : z.toInt = (ah0 z : Int) := by rcases h with rfl | rfl | rfl <;> decide
theorem cx1 {z : Int32} (h : bg0 z) : ah0 z < 16 := by rcases h with rfl | rfl | rfl <;> decide
theorem cy1 {z : Int32} (h : bg0 z) : ¬ ((16 : Int32) < ((z + (1 : Int32)) * (2 : Int32))) := by rcases h with rfl | rfl | rfl <;> decide
theorem cw9 (c d s : Int32) : ah8 c d s = if c = d then 1 else 0 := by
  unfold ah8 ce0
  by_cases h : c = d <;> simp [h]
theorem cm5 {c d s : Int32} (h : ¬ c = d) : ah8 c d s = 0 := by rw [cw9]; exact if_neg h
theorem dw4 {c d s : Int32} (h : c = d) : ¬ ah8 c d s = 0 := by rw [cw9, if_pos h]; decide
theorem cc8 : decode jdk_42_method_78_code 0 = .ok (.aload_n 0, 1) := by decide +kernel
theorem cd8 : decode jdk_42_method_78_code 1 = .ok (.getfield 19, 3) := by decide +kernel
theorem ce8 : decode jdk_42_method_78_code 4 = .ok (.istore_n 1, 1) := by decide +kernel
theorem cf8 : decode jdk_42_method_78_code 5 = .ok (.iload_n 1, 1) := by decide +kernel
theorem cc4 : decode jdk_42_method_78_code 6 = .ok (.ifCond .ne 52, 3) := by decide +kernel
theorem cg8 : decode jdk_42_method_78_code 9 = .ok (.aload_n 0, 1) := by decide +kernel
theorem cy5 : decode jdk_42_method_78_code 10 = .ok (.getfield 23, 3) := by decide +kernel
theorem cz5 : decode jdk_42_method_78_code 13 = .ok (.ifCond .ne 45, 3) := by decide +kernel
theorem ct0 : decode jdk_42_method_78_code 58 = .ok (.iload_n 1, 1) := by decide +kernel
theorem cu0 : decode jdk_42_method_78_code 59 = .ok (.ireturn, 1) := by decide +kernel
theorem et0 (m : MethodId) (o0 : Addr) : entryFrame m #[(.ref o0)] 2 = mkF m 0 #[.val (.ref o0), .unset] [] := by first | (simp [entryFrame, mkF, argsToLocals, Value.category]; done) | rfl
set_option maxRecDepth 65536 in
set_option maxHeartbeats 40000000 in
theorem ex2 (l : Launch) (Z : State) (a0 : Array Value) (hw : ∀ d ∈ tables_1, d.before a0 Z = true) (ws : List Jvm.Cond) (o0 : Addr) (cd : Int32) (h0 : Heap) (n0 : Nat) (Z0 : n0 ≤ h0.size) (br4 : Fld Z h0 o0 z_s2 "hash" "I" (.int cd)) (ax8 : Fld Z h0 o0 z_s2 "hashIsZero" "Z" (.int (aj6 cd))) :
    ab3 l Z (⟨z_s2, "hashCode", "()I"⟩ : MethodName) jdk_42_method_78_code 2 (some .int) ws ({ frames := 0, cells := 0, slots := 0, locals := 0 } : Room) #[(.ref o0)] h0 (fun (v : Option Value) (h : Heap) (L : List Loc) => v = some (.int cd) ∧ Fr n0 L ∧ h = h0) := by
  refine al3 (plainFor_of_name ac7) ?_
  intro p e s m below meth c s₁ P hx hby hml hrt hlk hown hnm hZ X0 e0 hP
  have N0 := Fr.nil n0
  have K0 := Keep.refl h0 []
  have hml' : c.maxLocals = 2 := hml
  refine ac4 (et0 m o0) ?_
  show aa0 p e below P (s₁.setTop (mkF m 0 #[.val (.ref o0), .unset] []))
  refine ae0 X0 hx (hb hby cc8) rfl rfl ?_
  refine au0 X0 hx hZ hown (host := "") (Or.inl (z_w hw 102 rfl)) Via.refl e0 br4 (hb hby cd8) (fun T1 X1 e1 => ?_)
  refine ag4 X1 hx (hb hby ce8) (l' := #[.val (.ref o0), .val (.int cd)]) rfl ?_
  refine ae1 X1 hx (hb hby cf8) rfl ?_
  by_cases hc2 : cd = (0 : Int32)
  · refine aq7 X1 hx (hb hby cc4) ((if0 _ _).trans (teq hc2).2) ?_
    refine ae0 X1 hx (hb hby cg8) rfl rfl ?_
    refine au0 X1 hx hZ hown (host := "") (Or.inl (z_w hw 104 rfl)) Via.refl e1 ax8 (hb hby cy5) (fun T3 X3 e3 => ?_)
    have hd4 : ¬ ((aj6 cd) = (0 : Int32)) := by rw [hc2]; decide
    refine al7 X3 hx (pc' := 58) (hb hby cz5) ((if0 _ _).trans (feq hd4).2) ?_
    refine ae1 X3 hx (hb hby ct0) rfl ?_
    exact ao7 X3 hx hlk hP hrt (hb hby cu0) (by decide) (by decide) ⟨rfl, N0, e3⟩
  · refine al7 X1 hx (pc' := 58) (hb hby cc4) ((if0 _ _).trans (feq hc2).2) ?_
    refine ae1 X1 hx (hb hby ct0) rfl ?_
    exact ao7 X1 hx hlk hP hrt (hb hby cu0) (by decide) (by decide) ⟨rfl, N0, e1⟩
theorem df3 : decode jdk_42_method_78_code 16 = .ok (.aload_n 0, 1) := by decide +kernel
theorem dg3 : decode jdk_42_method_78_code 17 = .ok (.invokevirtual 492, 3) := by decide +kernel
theorem da1 : parseMethodDescriptor "()Z" = some ⟨[], some .boolean⟩ := by decide +kernel
theorem dh3 : decode jdk_42_method_78_code 20 = .ok (.ifCond .eq 13, 3) := by decide +kernel
theorem di3 : decode jdk_42_method_78_code 23 = .ok (.aload_n 0, 1) := by decide +kernel
theorem dj3 : decode jdk_42_method_78_code 24 = .ok (.getfield 9, 3) := by decide +kernel
theorem dk3 : decode jdk_42_method_78_code 27 = .ok (.invokestatic 628, 3) := by decide +kernel
theorem cb9 : parseMethodDescriptor "([B)I" = some ⟨[(.array .byte)], some .int⟩ := by decide +kernel
theorem dl3 : decode jdk_42_method_78_code 30 = .ok (.goto 10, 3) := by decide +kernel
theorem dm3 : decode jdk_42_method_78_code 40 = .ok (.istore_n 1, 1) := by decide +kernel
theorem dn3 : decode jdk_42_method_78_code 41 = .ok (.iload_n 1, 1) := by decide +kernel
theorem c6 : decode jdk_42_method_78_code 42 = .ok (.ifCond .ne 11, 3) := by decide +kernel
theorem do3 : decode jdk_42_method_78_code 45 = .ok (.aload_n 0, 1) := by decide +kernel
theorem dp3 : decode jdk_42_method_78_code 46 = .ok (.iconst 1, 1) := by decide +kernel
theorem dq3 : decode jdk_42_method_78_code 47 = .ok (.putfield 23, 3) := by decide +kernel
theorem dr3 : decode jdk_42_method_78_code 50 = .ok (.goto 8, 3) := by decide +kernel
theorem ds3 : decode jdk_42_method_78_code 53 = .ok (.aload_n 0, 1) := by decide +kernel
theorem dt3 : decode jdk_42_method_78_code 54 = .ok (.iload_n 1, 1) := by decide +kernel
theorem du3 : decode jdk_42_method_78_code 55 = .ok (.putfield 19, 3) := by decide +kernel
theorem eu0 (m : MethodId) (o0 : Addr) : entryFrame m #[(.ref o0)] 2 = mkF m 0 #[.val (.ref o0), .unset] [] := by first | (simp [entryFrame, mkF, argsToLocals, Value.category]; done) | rfl
set_option maxRecDepth 65536 in
set_option maxHeartbeats 40000000 in
theorem cg0 (l : Launch) (Z : State) (a0 : Array Value) (hw : ∀ d ∈ tables_1, d.before a0 Z = true) (ws : List Jvm.Cond) (o0 : Addr) (c0 : Int32) (ai9 : Addr) (ab0 : Int32) (h0 : Heap) (n0 : Nat) (Z0 : n0 ≤ h0.size) (E_o0 : Exa Z h0 o0 z_s2) (bk2 : Fld Z h0 o0 z_s2 "value" "[B" (.ref ai9)) (bk1 : Fld Z h0 o0 z_s2 "coder" "B" (.int (0 : Int32))) (br4 : Fld Z h0 o0 z_s2 "hash" "I" (.int (0 : Int32))) (ax8 : Fld Z h0 o0 z_s2 "hashIsZero" "Z" (.int (0 : Int32))) (ar0 : Sta Z h0 z_s2 "COMPACT_STRINGS" "Z" (.int ab0)) (ck2 : ax2 Z h0 ai9 [c0]) (ah2 : n0 ≤ o0) (hnz : ¬ (ab0 = (0 : Int32))) :
    ab3 l Z (⟨z_s2, "hashCode", "()I"⟩ : MethodName) jdk_42_method_78_code 2 (some .int) ws ({ frames := 1, cells := 0, slots := 0, locals := 12 } : Room) #[(.ref o0)] h0 (fun (v : Option Value) (h : Heap) (L : List Loc) => v = some (.int (ak1 c0)) ∧ Fr n0 L ∧ Keep h0 h [o0] ∧ Exa Z h o0 z_s2 ∧ Fld Z h o0 z_s2 "value" "[B" (.ref ai9) ∧ Fld Z h o0 z_s2 "coder" "B" (.int (0 : Int32)) ∧ Fld Z h o0 z_s2 "hash" "I" (.int (ak1 c0)) ∧ Fld Z h o0 z_s2 "hashIsZero" "Z" (.int (aj6 (ak1 c0)))) := by
  refine al3 (plainFor_of_name ac7) ?_
  intro p e s m below meth c s₁ P hx hby hml hrt hlk hown hnm hZ X0 e0 hP
  have N0 := Fr.nil n0
  have K0 := Keep.refl h0 [o0]
  have hml' : c.maxLocals = 2 := hml
  refine ac4 (eu0 m o0) ?_
  show aa0 p e below P (s₁.setTop (mkF m 0 #[.val (.ref o0), .unset] []))
  refine ae0 X0 hx (hb hby cc8) rfl rfl ?_
  refine au0 X0 hx hZ hown (host := "") (Or.inl (z_w hw 102 rfl)) Via.refl e0 br4 (hb hby cd8) (fun T1 X1 e1 => ?_)
  refine ag4 X1 hx (hb hby ce8) (l' := #[.val (.ref o0), .val (.int (0 : Int32))]) rfl ?_
  refine ae1 X1 hx (hb hby cf8) rfl ?_
  refine aq7 X1 hx (hb hby cc4) ((if0 _ _).trans (teq (by decide : (0 : Int32) = (0 : Int32))).2) ?_
  refine ae0 X1 hx (hb hby cg8) rfl rfl ?_
  refine au0 X1 hx hZ hown (host := "") (Or.inl (z_w hw 104 rfl)) Via.refl e1 ax8 (hb hby cy5) (fun T2 X2 e2 => ?_)
  refine aq7 X2 hx (hb hby cz5) ((if0 _ _).trans (teq (by decide : (0 : Int32) = (0 : Int32))).2) ?_
  refine ae0 X2 hx (hb hby df3) rfl rfl ?_
  refine az1 X2 hx hZ (y := (⟨z_s2, "isLatin1", "()Z"⟩ : MethodName)) (z := (⟨z_s2, "isLatin1", "()Z"⟩ : MethodName)) hown (z_w hw 106 rfl) (z_w hw 107 rfl) (notFace_of_selects (args := #[]) (mvT hZ (z_w hw 109 rfl))) (z_w hw 109 rfl) (z_w hw 108 rfl) (z_w hw 2 rfl) (z_w hw 110 rfl) E_o0 (ev2 l Z a0 hw [] o0 ab0 h0 n0 (Nat.le_trans Z0 K0.1) bk1 ar0 hnz) 0 e2 hml' (argsL := []) (rest := []) (lenOf da1 rfl) (hb hby dg3) (fun r3 T3 L3 X3 hQ3 => ?_)
  obtain ⟨rfl, Nq3, eq3⟩ := hQ3
  have N3 := Fr.app N0 Nq3
  show aa0 p e below P (T3.setTop (mkF m 20 #[.val (.ref o0), .val (.int (0 : Int32))] [(.int (1 : Int32))]))
  refine aq7 X3 hx (hb hby dh3) ((if0 _ _).trans (feq (by decide : ¬ ((1 : Int32) = (0 : Int32)))).1) ?_
  refine ae0 X3 hx (hb hby di3) rfl rfl ?_
  refine au0 X3 hx hZ hown (host := "") (Or.inl (z_w hw 22 rfl)) Via.refl eq3 bk2 (hb hby dj3) (fun T4 X4 e4 => ?_)
  refine as5 X4 hx hZ (y := (⟨"java/lang/StringLatin1", "hashCode", "([B)I"⟩ : MethodName)) hown (z_w hw 111 rfl) (z_w hw 112 rfl) (z_w hw 7 rfl) (z_w hw 113 rfl) (en4 l Z a0 hw [] ai9 c0 h0 n0 (Nat.le_trans Z0 K0.1) ck2) 0 e4 hml' (argsL := [(.ref ai9)]) (rest := []) (lenOf cb9 rfl) (hb hby dk3) (fun r5 T5 L5 X5 hQ5 => ?_)
  obtain ⟨rfl, Nq5, eq5⟩ := hQ5
  have N5 := Fr.app N3 Nq5
  show aa0 p e below P (T5.setTop (mkF m 30 #[.val (.ref o0), .val (.int (0 : Int32))] [(.int (ak1 c0))]))
  refine ao4 X5 hx (pc' := 40) (hb hby dl3) ?_
  refine ag4 X5 hx (hb hby dm3) (l' := #[.val (.ref o0), .val (.int (ak1 c0))]) rfl ?_
  refine ae1 X5 hx (hb hby dn3) rfl ?_
  by_cases hc6 : (ak1 c0) = (0 : Int32)
  · refine aq7 X5 hx (hb hby c6) ((if0 _ _).trans (teq hc6).2) ?_
    refine ae0 X5 hx (hb hby do3) rfl rfl ?_
    refine az0 X5 hx (hb hby dp3) (z := (1 : Int32)) rfl ?_
    obtain ⟨T7, h7, X7, e7, W7, st7⟩ := putFN X5 hx hZ hown (z_w hw 104 rfl) Via.refl eq5 ax8 E_o0 (Or.inl (z_w hw 105 rfl)) (z_w hw 10 rfl) (ty := .boolean) (v' := (.int (1 : Int32))) (by decide) rfl (by decide) (g := (mkF m 47 #[.val (.ref o0), .val (.int (ak1 c0))] [(.int (1 : Int32)), (.ref o0)])) rfl rfl (hb hby dq3)
    have N7 := Fr.snoc X7 N5 ah2
    have K7 := Keep.wr K0 W7 (Or.inl (List.mem_of_getElem? (i := 0) rfl))
    have F7 := ax8.same W7
    refine an1 (fun _ => st7 _) ?_
    show aa0 p e below P (T7.setTop (mkF m 50 #[.val (.ref o0), .val (.int (ak1 c0))] []))
    refine ao4 X7 hx (pc' := 58) (hb hby dr3) ?_
    refine ae1 X7 hx (hb hby ct0) rfl ?_
    refine ao7 X7 hx hlk hP hrt (hb hby cu0) (by decide) (by decide) ?_
    have G8 := (E_o0.wr W7)
    have G9 := (bk2.other W7 (Or.inr (slot_ne (Or.inr (z_w hw 23 rfl)) (Or.inl (z_w hw 105 rfl)) (by decide) (t := (.array .byte)) (t' := .boolean) (by decide) (by decide))))
    have G10 := (bk1.other W7 (Or.inr (slot_ne (Or.inr (z_w hw 25 rfl)) (Or.inl (z_w hw 105 rfl)) (by decide) (t := .byte) (t' := .boolean) (by decide) (by decide))))
    have G11 := (br4.other W7 (Or.inr (slot_ne (Or.inl (z_w hw 103 rfl)) (Or.inl (z_w hw 105 rfl)) (by decide) (t := .int) (t' := .boolean) (by decide) (by decide))))
    have hfin : (fun (v : Option Value) (h : Heap) (L : List Loc) => v = some (.int (ak1 c0)) ∧ Fr n0 L ∧ Keep h0 h [o0] ∧ Exa Z h o0 z_s2 ∧ Fld Z h o0 z_s2 "value" "[B" (.ref ai9) ∧ Fld Z h o0 z_s2 "coder" "B" (.int (0 : Int32)) ∧ Fld Z h o0 z_s2 "hash" "I" (.int (ak1 c0)) ∧ Fld Z h o0 z_s2 "hashIsZero" "Z" (.int (aj6 (ak1 c0)))) (some (.int (ak1 c0))) h7 _ := ⟨rfl, N7, K7, G8, G9, G10, (by rw [hc6]; exact G11), (by rw [hc6]; exact (show (1 : Int32) = aj6 0 from by decide) ▸ F7)⟩
    rw [e7]; exact hfin
  · refine al7 X5 hx (pc' := 53) (hb hby c6) ((if0 _ _).trans (feq hc6).2) ?_
    refine ae0 X5 hx (hb hby ds3) rfl rfl ?_
    refine ae1 X5 hx (hb hby dt3) rfl ?_
    refine am4 X5 hx hZ hown (host := "") (Or.inl (z_w hw 102 rfl)) Via.refl eq5 br4 E_o0 (Or.inl (z_w hw 103 rfl)) (z_w hw 10 rfl) (ty := .int) (by decide) (hb hby du3) (fun T12 h12 X12 e12 W12 => ?_)
    have N12 := Fr.snoc X12 N5 ah2
    have K12 := Keep.wr K0 W12 (Or.inl (List.mem_of_getElem? (i := 0) rfl))
    have F12 := br4.same W12
    refine ae1 X12 hx (hb hby ct0) rfl ?_
    refine ao7 X12 hx hlk hP hrt (hb hby cu0) (by decide) (by decide) ?_
    have G13 := (E_o0.wr W12)
    have G14 := (bk2.other W12 (Or.inr (slot_ne (Or.inr (z_w hw 23 rfl)) (Or.inl (z_w hw 103 rfl)) (by decide) (t := (.array .byte)) (t' := .int) (by decide) (by decide))))
    have G15 := (bk1.other W12 (Or.inr (slot_ne (Or.inr (z_w hw 25 rfl)) (Or.inl (z_w hw 103 rfl)) (by decide) (t := .byte) (t' := .int) (by decide) (by decide))))
    have G16 := (ax8.other W12 (Or.inr (slot_ne (Or.inl (z_w hw 105 rfl)) (Or.inl (z_w hw 103 rfl)) (by decide) (t := .boolean) (t' := .int) (by decide) (by decide))))
    have hfin : (fun (v : Option Value) (h : Heap) (L : List Loc) => v = some (.int (ak1 c0)) ∧ Fr n0 L ∧ Keep h0 h [o0] ∧ Exa Z h o0 z_s2 ∧ Fld Z h o0 z_s2 "value" "[B" (.ref ai9) ∧ Fld Z h o0 z_s2 "coder" "B" (.int (0 : Int32)) ∧ Fld Z h o0 z_s2 "hash" "I" (.int (ak1 c0)) ∧ Fld Z h o0 z_s2 "hashIsZero" "Z" (.int (aj6 (ak1 c0)))) (some (.int (ak1 c0))) h12 _ := ⟨rfl, N12, K12, G13, G14, G15, F12, (by rw [show aj6 _ = (0 : Int32) from if_neg hc6]; exact G16)⟩
    rw [e12]; exact hfin
theorem bl2 : decode prog_128_method_2_code 0 = .ok (.aload_n 1, 1) := by decide +kernel
theorem bm2 : decode prog_128_method_2_code 1 = .ok (.aload_n 0, 1) := by decide +kernel
theorem bn2 : decode prog_128_method_2_code 2 = .ok (.getfield 22, 3) := by decide +kernel
theorem bo2 : decode prog_128_method_2_code 5 = .ok (.if_acmp .ne 18, 3) := by decide +kernel
theorem bs2 : decode prog_128_method_2_code 23 = .ok (.aload_n 0, 1) := by decide +kernel
theorem bt2 : decode prog_128_method_2_code 24 = .ok (.getfield 11, 3) := by decide +kernel
theorem bu2 : decode prog_128_method_2_code 27 = .ok (.arraylength, 1) := by decide +kernel
theorem bv2 : decode prog_128_method_2_code 28 = .ok (.iconst 1, 1) := by decide +kernel
theorem bw2 : decode prog_128_method_2_code 29 = .ok (.isub, 1) := by decide +kernel
theorem bx2 : decode prog_128_method_2_code 30 = .ok (.istore_n 2, 1) := by decide +kernel
theorem by2 : decode prog_128_method_2_code 31 = .ok (.aload_n 1, 1) := by decide +kernel
theorem bz2 : decode prog_128_method_2_code 32 = .ok (.invokevirtual 30, 3) := by decide +kernel
theorem au4 : parseMethodDescriptor "()I" = some ⟨[], some .int⟩ := by decide +kernel
theorem ba3 : decode prog_128_method_2_code 35 = .ok (.invokestatic 34, 3) := by decide +kernel
theorem bm0 : parseMethodDescriptor "(I)I" = some ⟨[.int], some .int⟩ := by decide +kernel
theorem bb3 : decode prog_128_method_2_code 38 = .ok (.iload_n 2, 1) := by decide +kernel
theorem bc3 : decode prog_128_method_2_code 39 = .ok (.iand, 1) := by decide +kernel
theorem bd3 : decode prog_128_method_2_code 40 = .ok (.istore_n 3, 1) := by decide +kernel
theorem a9 : decode prog_128_method_2_code 41 = .ok (.aload_n 0, 1) := by decide +kernel
theorem aa9 : decode prog_128_method_2_code 42 = .ok (.getfield 11, 3) := by decide +kernel
theorem ab9 : decode prog_128_method_2_code 45 = .ok (.iload_n 3, 1) := by decide +kernel
theorem ac9 : decode prog_128_method_2_code 46 = .ok (.aaload, 1) := by decide +kernel
theorem ad9 : decode prog_128_method_2_code 47 = .ok (.ifnull 35, 3) := by decide +kernel
theorem be3 : decode prog_128_method_2_code 50 = .ok (.aload_n 0, 1) := by decide +kernel
theorem bf3 : decode prog_128_method_2_code 51 = .ok (.getfield 11, 3) := by decide +kernel
theorem bg3 : decode prog_128_method_2_code 54 = .ok (.iload_n 3, 1) := by decide +kernel
theorem bh3 : decode prog_128_method_2_code 55 = .ok (.aaload, 1) := by decide +kernel
theorem bi3 : decode prog_128_method_2_code 56 = .ok (.aload_n 1, 1) := by decide +kernel
theorem bj3 : decode prog_128_method_2_code 57 = .ok (.if_acmp .eq 25, 3) := by decide +kernel
theorem bf5 : decode prog_128_method_2_code 60 = .ok (.aload_n 0, 1) := by decide +kernel
theorem bg5 : decode prog_128_method_2_code 61 = .ok (.getfield 11, 3) := by decide +kernel
theorem bh5 : decode prog_128_method_2_code 64 = .ok (.iload_n 3, 1) := by decide +kernel
theorem bi5 : decode prog_128_method_2_code 65 = .ok (.aaload, 1) := by decide +kernel
theorem bj5 : decode prog_128_method_2_code 66 = .ok (.aload_n 1, 1) := by decide +kernel
theorem bk5 : decode prog_128_method_2_code 67 = .ok (.invokevirtual 38, 3) := by decide +kernel
theorem ai5 : parseMethodDescriptor "(Ljava/lang/Object;)Z" = some ⟨[(.object "java/lang/Object")], some .boolean⟩ := by decide +kernel
theorem bl5 : decode prog_128_method_2_code 70 = .ok (.ifCond .ne 12, 3) := by decide +kernel
theorem cv0 : decode prog_128_method_2_code 73 = .ok (.iload_n 3, 1) := by decide +kernel
theorem cw0 : decode prog_128_method_2_code 74 = .ok (.iconst 1, 1) := by decide +kernel
theorem cx0 : decode prog_128_method_2_code 75 = .ok (.iadd, 1) := by decide +kernel
theorem cy0 : decode prog_128_method_2_code 76 = .ok (.iload_n 2, 1) := by decide +kernel
theorem cz0 : decode prog_128_method_2_code 77 = .ok (.iand, 1) := by decide +kernel
theorem ca1 : decode prog_128_method_2_code 78 = .ok (.istore_n 3, 1) := by decide +kernel
theorem cb1 : decode prog_128_method_2_code 79 = .ok (.goto (-38), 3) := by decide +kernel
theorem bk3 : decode prog_128_method_2_code 82 = .ok (.aload_n 0, 1) := by decide +kernel
theorem bl3 : decode prog_128_method_2_code 83 = .ok (.getfield 11, 3) := by decide +kernel
theorem bm3 : decode prog_128_method_2_code 86 = .ok (.iload_n 3, 1) := by decide +kernel
theorem bn3 : decode prog_128_method_2_code 87 = .ok (.aaload, 1) := by decide +kernel
theorem bo3 : decode prog_128_method_2_code 88 = .ok (.ifnull 19, 3) := by decide +kernel
theorem bn8 : decode prog_128_method_2_code 107 = .ok (.aload_n 0, 1) := by decide +kernel
theorem bo8 : decode prog_128_method_2_code 108 = .ok (.getfield 11, 3) := by decide +kernel
theorem bp8 : decode prog_128_method_2_code 111 = .ok (.iload_n 3, 1) := by decide +kernel
theorem bq8 : decode prog_128_method_2_code 112 = .ok (.aload_n 1, 1) := by decide +kernel
theorem br8 : decode prog_128_method_2_code 113 = .ok (.aastore, 1) := by decide +kernel
theorem bs8 : decode prog_128_method_2_code 114 = .ok (.aload_n 0, 1) := by decide +kernel
theorem bt8 : decode prog_128_method_2_code 115 = .ok (.getfield 15, 3) := by decide +kernel
theorem bu8 : decode prog_128_method_2_code 118 = .ok (.iload_n 3, 1) := by decide +kernel
theorem bv8 : decode prog_128_method_2_code 119 = .ok (.iconst 1, 1) := by decide +kernel
theorem bw8 : decode prog_128_method_2_code 120 = .ok (.iastore, 1) := by decide +kernel
theorem bx8 : decode prog_128_method_2_code 121 = .ok (.aload_n 0, 1) := by decide +kernel
theorem by8 : decode prog_128_method_2_code 122 = .ok (.getfield 19, 3) := by decide +kernel
theorem bz8 : decode prog_128_method_2_code 125 = .ok (.aload_n 0, 1) := by decide +kernel
theorem b9 : decode prog_128_method_2_code 126 = .ok (.dup, 1) := by decide +kernel
theorem ba9 : decode prog_128_method_2_code 127 = .ok (.getfield 42, 3) := by decide +kernel
theorem bb9 : decode prog_128_method_2_code 130 = .ok (.dup_x1, 1) := by decide +kernel
theorem bc9 : decode prog_128_method_2_code 131 = .ok (.iconst 1, 1) := by decide +kernel
theorem bd9 : decode prog_128_method_2_code 132 = .ok (.iadd, 1) := by decide +kernel
theorem be9 : decode prog_128_method_2_code 133 = .ok (.putfield 42, 3) := by decide +kernel
theorem bf9 : decode prog_128_method_2_code 136 = .ok (.iload_n 3, 1) := by decide +kernel
theorem bg9 : decode prog_128_method_2_code 137 = .ok (.iastore, 1) := by decide +kernel
theorem bh9 : decode prog_128_method_2_code 138 = .ok (.iconst 1, 1) := by decide +kernel
theorem bi9 : decode prog_128_method_2_code 139 = .ok (.istore 4, 2) := by decide +kernel
theorem bj9 : decode prog_128_method_2_code 141 = .ok (.aload_n 0, 1) := by decide +kernel
theorem bk9 : decode prog_128_method_2_code 142 = .ok (.getfield 42, 3) := by decide +kernel
theorem bl9 : decode prog_128_method_2_code 145 = .ok (.iconst 2, 1) := by decide +kernel
theorem bm9 : decode prog_128_method_2_code 146 = .ok (.imul, 1) := by decide +kernel
theorem bn9 : decode prog_128_method_2_code 147 = .ok (.aload_n 0, 1) := by decide +kernel
theorem bo9 : decode prog_128_method_2_code 148 = .ok (.getfield 11, 3) := by decide +kernel
theorem bp9 : decode prog_128_method_2_code 151 = .ok (.arraylength, 1) := by decide +kernel
theorem bq9 : decode prog_128_method_2_code 152 = .ok (.if_icmp .le 13, 3) := by decide +kernel
theorem bu1 : decode prog_128_method_2_code 165 = .ok (.aload_n 0, 1) := by decide +kernel
theorem bv1 : decode prog_128_method_2_code 166 = .ok (.aload_n 1, 1) := by decide +kernel
theorem bw1 : decode prog_128_method_2_code 167 = .ok (.putfield 22, 3) := by decide +kernel
theorem bx1 : decode prog_128_method_2_code 170 = .ok (.aload_n 0, 1) := by decide +kernel
theorem by1 : decode prog_128_method_2_code 171 = .ok (.iload_n 3, 1) := by decide +kernel
theorem bz1 : decode prog_128_method_2_code 172 = .ok (.putfield 26, 3) := by decide +kernel
theorem ba2 : decode prog_128_method_2_code 175 = .ok (.iload 4, 2) := by decide +kernel
theorem bb2 : decode prog_128_method_2_code 177 = .ok (.ireturn, 1) := by decide +kernel
theorem ey2 (m : MethodId) (o0 : Addr) (o1 : Addr) : entryFrame m #[(.ref o0), (.ref o1)] 5 = mkF m 0 #[.val (.ref o0), .val (.ref o1), .unset, .unset, .unset] [] := by first | (simp [entryFrame, mkF, argsToLocals, Value.category]; done) | rfl
set_option maxRecDepth 65536 in
set_option maxHeartbeats 40000000 in
theorem dx4 (l : Launch) (Z : State) (a0 : Array Value) (hw : ∀ d ∈ tables_1, d.before a0 Z = true) (ws : List Jvm.Cond) (o0 : Addr) (o1 : Addr) (c0 : Int32) (N : List Value) (Cn : List Int32) (U : List Int32) (k : Int32) (la : Addr) (q0 : Addr) (d0 : Int32) (q1 : Addr) (d1 : Int32) (aj0 : Addr) (ag0 : Addr) (an0 : Addr) (ag1 : Int32) (av1 : Int32) (am0 : Addr) (af1 : Addr) (ao2 : Addr) (ab0 : Int32) (h0 : Heap) (n0 : Nat) (Z0 : n0 ≤ h0.size) (E_o0 : Exa Z h0 o0 z_s0) (E_o1 : Exa Z h0 o1 z_s2) (E_q0 : Exa Z h0 q0 z_s2) (E_q1 : Exa Z h0 q1 z_s2) (ar2 : Fld Z h0 o0 z_s0 "names" z_s8 (.ref aj0)) (aw2 : Fld Z h0 o0 z_s0 "counts" "[I" (.ref ag0)) (ah4 : Fld Z h0 o0 z_s0 "used" "[I" (.ref an0)) (af3 : Fld Z h0 o0 z_s0 "size" "I" (.int ag1)) (av2 : Fld Z h0 o0 z_s0 "last" z_s5 (.ref la)) (ap2 : Fld Z h0 o0 z_s0 "lastSlot" "I" (.int av1)) (ag3 : Fld Z h0 o1 z_s2 "value" "[B" (.ref am0)) (ah3 : Fld Z h0 o1 z_s2 "coder" "B" (.int (0 : Int32))) (an3 : Fld Z h0 o1 z_s2 "hash" "I" (.int (0 : Int32))) (aa2 : Fld Z h0 o1 z_s2 "hashIsZero" "Z" (.int (0 : Int32))) (aj5 : Fld Z h0 q0 z_s2 "value" "[B" (.ref af1)) (ak5 : Fld Z h0 q0 z_s2 "coder" "B" (.int (0 : Int32))) (au9 : Fld Z h0 q1 z_s2 "value" "[B" (.ref ao2)) (av9 : Fld Z h0 q1 z_s2 "coder" "B" (.int (0 : Int32))) (ar0 : Sta Z h0 z_s2 "COMPACT_STRINGS" "Z" (.int ab0)) (an2 : (ac2 z_s2) Z h0 aj0 N) (at2 : ah1 Z h0 ag0 Cn) (aj4 : ah1 Z h0 an0 U) (aj2 : ax2 Z h0 am0 [c0]) (aq4 : ax2 Z h0 af1 [d0]) (a8 : ax2 Z h0 ao2 [d1]) (ah2 : n0 ≤ o0) (am3 : n0 ≤ aj0) (am2 : n0 ≤ ag0) (ax3 : n0 ≤ an0) (ae6 : n0 ≤ o1) (at0 : o0 ≠ aj0) (ao0 : o0 ≠ ag0) (ay0 : o0 ≠ an0) (ap0 : o0 ≠ o1) (aj1 : aj0 ≠ ag0) (aq1 : aj0 ≠ an0) (ao1 : aj0 ≠ o1) (al1 : ag0 ≠ an0) (ab1 : ag0 ≠ o1) (as1 : an0 ≠ o1) (az2 : o0 ≠ am0) (aw9 : o0 ≠ q0) (av4 : o0 ≠ af1) (bo6 : o0 ≠ q1) (aa8 : o0 ≠ ao2) (ak2 : aj0 ≠ am0) (am5 : aj0 ≠ q0) (ao3 : aj0 ≠ af1) (am9 : aj0 ≠ q1) (ay5 : aj0 ≠ ao2) (ag2 : ag0 ≠ am0) (ae5 : ag0 ≠ q0) (ak3 : ag0 ≠ af1) (at8 : ag0 ≠ q1) (ao5 : ag0 ≠ ao2) (al2 : an0 ≠ am0) (at5 : an0 ≠ q0) (ay3 : an0 ≠ af1) (ax9 : an0 ≠ q1) (ag6 : an0 ≠ ao2) (ae2 : o1 ≠ am0) (ad4 : o1 ≠ q0) (ad3 : o1 ≠ af1) (an5 : o1 ≠ q1) (az5 : o1 ≠ ao2) (bn0 : o1 ≠ la) (hnz : ¬ (ab0 = (0 : Int32))) (hN : N.length = 16) (hCn : Cn.length = 16) (hU : U.length = 16) (hz : bg0 ag1) (hp0 : N[ah0 (ac0 c0)]? = some (.ref q0)) (hq0 : ¬ d0 = c0) (hp1 : N[ah0 (aw0 (ac0 c0))]? = some (.ref q1)) (hq1 : ¬ d1 = c0) (hp2 : N[ah0 (aw0 (aw0 (ac0 c0)))]? = some .null) :
    ab3 l Z (⟨z_s0, "count", z_s9⟩ : MethodName) prog_128_method_2_code 5 (some .int) ws ({ frames := 2, cells := 0, slots := 0, locals := 28 } : Room) #[(.ref o0), (.ref o1)] h0 (fun (v : Option Value) (h : Heap) (L : List Loc) => v = some (.int (ax0 false k)) ∧ Fr n0 L ∧ Keep h0 h [o0, aj0, ag0, an0, o1] ∧ Exa Z h o0 z_s0 ∧ Fld Z h o0 z_s0 "names" z_s8 (.ref aj0) ∧ Fld Z h o0 z_s0 "counts" "[I" (.ref ag0) ∧ Fld Z h o0 z_s0 "used" "[I" (.ref an0) ∧ Fld Z h o0 z_s0 "size" "I" (.int (ac5 false ag1)) ∧ Fld Z h o0 z_s0 "last" z_s5 (.ref o1) ∧ Fld Z h o0 z_s0 "lastSlot" "I" (.int (aw0 (aw0 (ac0 c0)))) ∧ (ac2 z_s2) Z h aj0 (ap4 false N (ah0 (aw0 (aw0 (ac0 c0)))) o1) ∧ ah1 Z h ag0 (ai3 false Cn (ah0 (aw0 (aw0 (ac0 c0)))) k) ∧ ah1 Z h an0 (ap6 false U (ah0 ag1) (aw0 (aw0 (ac0 c0)))) ∧ Exa Z h o1 z_s2 ∧ Fld Z h o1 z_s2 "value" "[B" (.ref am0) ∧ Fld Z h o1 z_s2 "coder" "B" (.int (0 : Int32)) ∧ Fld Z h o1 z_s2 "hash" "I" (.int (ak1 c0)) ∧ Fld Z h o1 z_s2 "hashIsZero" "Z" (.int (aj6 (ak1 c0)))) := by
  refine al3 (plainFor_of_name aa1) ?_
  intro p e s m below meth c s₁ P hx hby hml hrt hlk hown hnm hZ X0 e0 hP
  have N0 := Fr.nil n0
  have K0 := Keep.refl h0 [o0, aj0, ag0, an0, o1]
  have hml' : c.maxLocals = 5 := hml
  refine ac4 (ey2 m o0 o1) ?_
  show aa0 p e below P (s₁.setTop (mkF m 0 #[.val (.ref o0), .val (.ref o1), .unset, .unset, .unset] []))
  refine ae0 X0 hx (hb hby bl2) rfl rfl ?_
  refine ae0 X0 hx (hb hby bm2) rfl rfl ?_
  refine au0 X0 hx hZ hown (host := "") (Or.inl (z_w hw 84 rfl)) Via.refl e0 av2 (hb hby bn2) (fun T1 X1 e1 => ?_)
  refine bi1 X1 hx rfl rfl (pc' := 23) (same := false) (hb hby bo2) (decide_eq_false fun q => bn0 (Value.ref.inj q)) ?_
  refine ae0 X1 hx (hb hby bs2) rfl rfl ?_
  refine au0 X1 hx hZ hown (host := "") (Or.inl (z_w hw 62 rfl)) Via.refl e1 ar2 (hb hby bt2) (fun T2 X2 e2 => ?_)
  refine ao9 X2 hx hZ e2 an2 (z := (16 : Int32)) (show Int32.ofNat N.length = (16 : Int32) from by simp only [List.length_set, hN]; rfl) (hb hby bu2) ?_
  refine az0 X2 hx (hb hby bv2) (z := (1 : Int32)) rfl ?_
  refine bt1 X2 hx (hb hby bw2) (z := (15 : Int32)) rfl ?_
  refine ag4 X2 hx (hb hby bx2) (l' := #[.val (.ref o0), .val (.ref o1), .val (.int (15 : Int32)), .unset, .unset]) rfl ?_
  refine ae0 X2 hx (hb hby by2) rfl rfl ?_
  refine az1 X2 hx hZ (y := (⟨z_s2, "hashCode", "()I"⟩ : MethodName)) (z := (⟨z_s2, "hashCode", "()I"⟩ : MethodName)) hown (z_w hw 97 rfl) (z_w hw 98 rfl) (notFace_of_selects (args := #[]) (mvT hZ (z_w hw 100 rfl))) (z_w hw 100 rfl) (z_w hw 99 rfl) (z_w hw 2 rfl) (z_w hw 101 rfl) E_o1 (cg0 l Z a0 hw [] o1 c0 am0 ab0 h0 n0 (Nat.le_trans Z0 K0.1) E_o1 ag3 ah3 an3 aa2 ar0 aj2 ae6 hnz) 0 e2 hml' (argsL := []) (rest := []) (lenOf au4 rfl) (hb hby bz2) (fun r3 T3 L3 X3 hQ3 => ?_)
  obtain ⟨rfl, Nq3, Kq3, f0_3, f1_3, f2_3, f3_3, f4_3⟩ := hQ3
  have N3 := Fr.app N0 Nq3
  have K3 := Keep.trans K0 Kq3 (allS (Or.inl (List.mem_of_getElem? (i := 4) rfl)) all0)
  show aa0 p e below P (T3.setTop (mkF m 35 #[.val (.ref o0), .val (.ref o1), .val (.int (15 : Int32)), .unset, .unset] [(.int (ak1 c0))]))
  refine as5 X3 hx hZ (y := (⟨z_s0, "spread", "(I)I"⟩ : MethodName)) hown (z_w hw 114 rfl) (z_w hw 115 rfl) (z_w hw 55 rfl) (z_w hw 116 rfl) (cd0 l Z a0 hw [] (ak1 c0)  T3.heap n0 (Nat.le_trans Z0 K3.1) ) 0 rfl hml' (argsL := [(.int (ak1 c0))]) (rest := []) (lenOf bm0 rfl) (hb hby ba3) (fun r4 T4 L4 X4 hQ4 => ?_)
  obtain ⟨rfl, Nq4, eq4⟩ := hQ4
  have N4 := Fr.app N3 Nq4
  show aa0 p e below P (T4.setTop (mkF m 38 #[.val (.ref o0), .val (.ref o1), .val (.int (15 : Int32)), .unset, .unset] [(.int (ap9 (ak1 c0)))]))
  refine ae1 X4 hx (hb hby bb3) rfl ?_
  refine az7 X4 hx (hb hby bc3) (z := ((ap9 (ak1 c0)) &&& (15 : Int32))) rfl ?_
  show aa0 p e below P (T4.setTop (mkF m 40 #[.val (.ref o0), .val (.ref o1), .val (.int (15 : Int32)), .unset, .unset] [(.int (ac0 c0))]))
  refine ag4 X4 hx (hb hby bd3) (l' := #[.val (.ref o0), .val (.ref o1), .val (.int (15 : Int32)), .val (.int (ac0 c0)), .unset]) rfl ?_
  refine ae0 X4 hx (hb hby a9) rfl rfl ?_
  have G5 := (ar2.keep Kq3 (ninS ap0 nin0))
  refine au0 X4 hx hZ hown (host := "") (Or.inl (z_w hw 62 rfl)) Via.refl eq4 G5 (hb hby aa9) (fun T6 X6 e6 => ?_)
  refine ae1 X6 hx (hb hby ab9) rfl ?_
  have G7 := (an2.keep Kq3 (ninS ao1 nin0))
  refine ay2 X6 hx hZ e6 G7 (j := (ac0 c0)) (v := (.ref q0)) (i := (ah0 (ac0 c0))) (ay4 _) hp0 (hb hby ac9) ?_
  refine bt0 X6 hx (hb hby ad9) ?_
  refine ae0 X6 hx (hb hby be3) rfl rfl ?_
  refine au0 X6 hx hZ hown (host := "") (Or.inl (z_w hw 62 rfl)) Via.refl e6 G5 (hb hby bf3) (fun T8 X8 e8 => ?_)
  refine ae1 X8 hx (hb hby bg3) rfl ?_
  refine ay2 X8 hx hZ e8 G7 (j := (ac0 c0)) (v := (.ref q0)) (i := (ah0 (ac0 c0))) (ay4 _) hp0 (hb hby bh3) ?_
  refine ae0 X8 hx (hb hby bi3) rfl rfl ?_
  refine bi1 X8 hx rfl rfl (pc' := 60) (same := false) (hb hby bj3) (decide_eq_false fun q => ad4.symm (Value.ref.inj q)) ?_
  refine ae0 X8 hx (hb hby bf5) rfl rfl ?_
  refine au0 X8 hx hZ hown (host := "") (Or.inl (z_w hw 62 rfl)) Via.refl e8 G5 (hb hby bg5) (fun T9 X9 e9 => ?_)
  refine ae1 X9 hx (hb hby bh5) rfl ?_
  refine ay2 X9 hx hZ e9 G7 (j := (ac0 c0)) (v := (.ref q0)) (i := (ah0 (ac0 c0))) (ay4 _) hp0 (hb hby bi5) ?_
  refine ae0 X9 hx (hb hby bj5) rfl rfl ?_
  have G11 := (E_q0.keep Kq3)
  have G12 := (aj5.keep Kq3 (ninS ad4.symm nin0))
  have G13 := (ak5.keep Kq3 (ninS ad4.symm nin0))
  have G14 := (ad2 ar0 Kq3 (allS (aw3 E_o1) all0))
  have G15 := (aq4.keep Kq3 (ninS ad3.symm nin0))
  have G16 := (aj2.keep Kq3 (ninS ae2.symm nin0))
  refine az1 X9 hx hZ (y := (⟨z_s2, "equals", "(Ljava/lang/Object;)Z"⟩ : MethodName)) (z := (⟨z_s2, "equals", "(Ljava/lang/Object;)Z"⟩ : MethodName)) hown (z_w hw 124 rfl) (z_w hw 125 rfl) (notFace_of_selects (args := #[]) (mvT hZ (z_w hw 127 rfl))) (z_w hw 127 rfl) (z_w hw 126 rfl) (z_w hw 2 rfl) (z_w hw 128 rfl) G11 (cf2 l Z a0 hw [] q0 o1 d0 c0 af1 am0 ab0 T3.heap n0 (Nat.le_trans Z0 K3.1) G11 f0_3 G12 G13 f1_3 f2_3 G14 G15 G16 ad4.symm hnz) 0 e9 hml' (argsL := [(.ref o1)]) (rest := []) (lenOf ai5 rfl) (hb hby bk5) (fun r10 T10 L10 X10 hQ10 => ?_)
  obtain ⟨rfl, Nq10, eq10⟩ := hQ10
  have N10 := Fr.app N4 Nq10
  show aa0 p e below P (T10.setTop (mkF m 70 #[.val (.ref o0), .val (.ref o1), .val (.int (15 : Int32)), .val (.int (ac0 c0)), .unset] [(.int (ah8 d0 c0 ab0))]))
  have hd17 : (ah8 d0 c0 ab0) = (0 : Int32) := by exact cm5 hq0
  refine aq7 X10 hx (hb hby bl5) ((if0 _ _).trans (teq hd17).2) ?_
  refine ae1 X10 hx (hb hby cv0) rfl ?_
  refine az0 X10 hx (hb hby cw0) (z := (1 : Int32)) rfl ?_
  refine ad6 X10 hx (hb hby cx0) (z := ((ac0 c0) + (1 : Int32))) rfl ?_
  refine ae1 X10 hx (hb hby cy0) rfl ?_
  refine az7 X10 hx (hb hby cz0) (z := (((ac0 c0) + (1 : Int32)) &&& (15 : Int32))) rfl ?_
  show aa0 p e below P (T10.setTop (mkF m 78 #[.val (.ref o0), .val (.ref o1), .val (.int (15 : Int32)), .val (.int (ac0 c0)), .unset] [(.int (aw0 (ac0 c0)))]))
  refine ag4 X10 hx (hb hby ca1) (l' := #[.val (.ref o0), .val (.ref o1), .val (.int (15 : Int32)), .val (.int (aw0 (ac0 c0))), .unset]) rfl ?_
  refine ao4 X10 hx (pc' := 41) (hb hby cb1) ?_
  refine ae0 X10 hx (hb hby a9) rfl rfl ?_
  refine au0 X10 hx hZ hown (host := "") (Or.inl (z_w hw 62 rfl)) Via.refl eq10 G5 (hb hby aa9) (fun T18 X18 e18 => ?_)
  refine ae1 X18 hx (hb hby ab9) rfl ?_
  refine ay2 X18 hx hZ e18 G7 (j := (aw0 (ac0 c0))) (v := (.ref q1)) (i := (ah0 (aw0 (ac0 c0)))) (aq9 _) hp1 (hb hby ac9) ?_
  refine bt0 X18 hx (hb hby ad9) ?_
  refine ae0 X18 hx (hb hby be3) rfl rfl ?_
  refine au0 X18 hx hZ hown (host := "") (Or.inl (z_w hw 62 rfl)) Via.refl e18 G5 (hb hby bf3) (fun T19 X19 e19 => ?_)
  refine ae1 X19 hx (hb hby bg3) rfl ?_
  refine ay2 X19 hx hZ e19 G7 (j := (aw0 (ac0 c0))) (v := (.ref q1)) (i := (ah0 (aw0 (ac0 c0)))) (aq9 _) hp1 (hb hby bh3) ?_
  refine ae0 X19 hx (hb hby bi3) rfl rfl ?_
  refine bi1 X19 hx rfl rfl (pc' := 60) (same := false) (hb hby bj3) (decide_eq_false fun q => an5.symm (Value.ref.inj q)) ?_
  refine ae0 X19 hx (hb hby bf5) rfl rfl ?_
  refine au0 X19 hx hZ hown (host := "") (Or.inl (z_w hw 62 rfl)) Via.refl e19 G5 (hb hby bg5) (fun T20 X20 e20 => ?_)
  refine ae1 X20 hx (hb hby bh5) rfl ?_
  refine ay2 X20 hx hZ e20 G7 (j := (aw0 (ac0 c0))) (v := (.ref q1)) (i := (ah0 (aw0 (ac0 c0)))) (aq9 _) hp1 (hb hby bi5) ?_
  refine ae0 X20 hx (hb hby bj5) rfl rfl ?_
  have G22 := (E_q1.keep Kq3)
  have G23 := (au9.keep Kq3 (ninS an5.symm nin0))
  have G24 := (av9.keep Kq3 (ninS an5.symm nin0))
  have G25 := (a8.keep Kq3 (ninS az5.symm nin0))
  refine az1 X20 hx hZ (y := (⟨z_s2, "equals", "(Ljava/lang/Object;)Z"⟩ : MethodName)) (z := (⟨z_s2, "equals", "(Ljava/lang/Object;)Z"⟩ : MethodName)) hown (z_w hw 124 rfl) (z_w hw 125 rfl) (notFace_of_selects (args := #[]) (mvT hZ (z_w hw 127 rfl))) (z_w hw 127 rfl) (z_w hw 126 rfl) (z_w hw 2 rfl) (z_w hw 128 rfl) G22 (cf2 l Z a0 hw [] q1 o1 d1 c0 ao2 am0 ab0 T3.heap n0 (Nat.le_trans Z0 K3.1) G22 f0_3 G23 G24 f1_3 f2_3 G14 G25 G16 an5.symm hnz) 0 e20 hml' (argsL := [(.ref o1)]) (rest := []) (lenOf ai5 rfl) (hb hby bk5) (fun r21 T21 L21 X21 hQ21 => ?_)
  obtain ⟨rfl, Nq21, eq21⟩ := hQ21
  have N21 := Fr.app N10 Nq21
  show aa0 p e below P (T21.setTop (mkF m 70 #[.val (.ref o0), .val (.ref o1), .val (.int (15 : Int32)), .val (.int (aw0 (ac0 c0))), .unset] [(.int (ah8 d1 c0 ab0))]))
  have hd26 : (ah8 d1 c0 ab0) = (0 : Int32) := by exact cm5 hq1
  refine aq7 X21 hx (hb hby bl5) ((if0 _ _).trans (teq hd26).2) ?_
  refine ae1 X21 hx (hb hby cv0) rfl ?_
  refine az0 X21 hx (hb hby cw0) (z := (1 : Int32)) rfl ?_
  refine ad6 X21 hx (hb hby cx0) (z := ((aw0 (ac0 c0)) + (1 : Int32))) rfl ?_
  refine ae1 X21 hx (hb hby cy0) rfl ?_
  refine az7 X21 hx (hb hby cz0) (z := (((aw0 (ac0 c0)) + (1 : Int32)) &&& (15 : Int32))) rfl ?_
  show aa0 p e below P (T21.setTop (mkF m 78 #[.val (.ref o0), .val (.ref o1), .val (.int (15 : Int32)), .val (.int (aw0 (ac0 c0))), .unset] [(.int (aw0 (aw0 (ac0 c0))))]))
  refine ag4 X21 hx (hb hby ca1) (l' := #[.val (.ref o0), .val (.ref o1), .val (.int (15 : Int32)), .val (.int (aw0 (aw0 (ac0 c0)))), .unset]) rfl ?_
  refine ao4 X21 hx (pc' := 41) (hb hby cb1) ?_
  refine ae0 X21 hx (hb hby a9) rfl rfl ?_
  refine au0 X21 hx hZ hown (host := "") (Or.inl (z_w hw 62 rfl)) Via.refl eq21 G5 (hb hby aa9) (fun T27 X27 e27 => ?_)
  refine ae1 X27 hx (hb hby ab9) rfl ?_
  refine ay2 X27 hx hZ e27 G7 (j := (aw0 (aw0 (ac0 c0)))) (v := .null) (i := (ah0 (aw0 (aw0 (ac0 c0))))) (aq9 _) hp2 (hb hby ac9) ?_
  refine bq1 X27 hx (pc' := 82) (hb hby ad9) ?_
  refine ae0 X27 hx (hb hby bk3) rfl rfl ?_
  refine au0 X27 hx hZ hown (host := "") (Or.inl (z_w hw 62 rfl)) Via.refl e27 G5 (hb hby bl3) (fun T28 X28 e28 => ?_)
  refine ae1 X28 hx (hb hby bm3) rfl ?_
  refine ay2 X28 hx hZ e28 G7 (j := (aw0 (aw0 (ac0 c0)))) (v := .null) (i := (ah0 (aw0 (aw0 (ac0 c0))))) (aq9 _) hp2 (hb hby bn3) ?_
  refine bq1 X28 hx (pc' := 107) (hb hby bo3) ?_
  refine ae0 X28 hx (hb hby bn8) rfl rfl ?_
  refine au0 X28 hx hZ hown (host := "") (Or.inl (z_w hw 62 rfl)) Via.refl e28 G5 (hb hby bo8) (fun T29 X29 e29 => ?_)
  refine ae1 X29 hx (hb hby bp8) rfl ?_
  refine ae0 X29 hx (hb hby bq8) rfl rfl ?_
  refine bf8 X29 hx hZ e29 G7 (j := (aw0 (aw0 (ac0 c0)))) (v := (.ref o1)) (i := (ah0 (aw0 (aw0 (ac0 c0))))) (aq9 _) (by rw [hN]; exact (be5 _)) (Or.inr ⟨_, rfl, Ins.self f0_3⟩) (hb hby br8) (fun T30 h30 X30 e30 W30 B30 => ?_)
  have A30 : (ac2 z_s2) Z h30 aj0 (N.set (ah0 (aw0 (aw0 (ac0 c0)))) (.ref o1)) := B30
  have N30 := Fr.snoc X30 N21 am3
  have K30 := Keep.wr K3 W30 (Or.inl (List.mem_of_getElem? (i := 1) rfl))
  refine ae0 X30 hx (hb hby bs8) rfl rfl ?_
  have G31 := ((aw2.keep Kq3 (ninS ap0 nin0)).other W30 (Or.inl at0))
  refine au0 X30 hx hZ hown (host := "") (Or.inl (z_w hw 65 rfl)) Via.refl e30 G31 (hb hby bt8) (fun T32 X32 e32 => ?_)
  refine ae1 X32 hx (hb hby bu8) rfl ?_
  refine az0 X32 hx (hb hby bv8) (z := (1 : Int32)) rfl ?_
  have G33 := ((at2.keep Kq3 (ninS ab1 nin0)).other W30 aj1.symm)
  refine bh0 X32 hx hZ e32 G33 (j := (aw0 (aw0 (ac0 c0)))) (v := (1 : Int32)) (i := (ah0 (aw0 (aw0 (ac0 c0))))) (aq9 _) (by rw [hCn]; exact (be5 _)) (hb hby bw8) (fun T34 h34 X34 e34 W34 B34 => ?_)
  have A34 : ah1 Z h34 ag0 (Cn.set (ah0 (aw0 (aw0 (ac0 c0)))) (1 : Int32)) := B34
  have N34 := Fr.snoc X34 N30 am2
  have K34 := Keep.wr K30 W34 (Or.inl (List.mem_of_getElem? (i := 2) rfl))
  refine ae0 X34 hx (hb hby bx8) rfl rfl ?_
  have G35 := (((ah4.keep Kq3 (ninS ap0 nin0)).other W30 (Or.inl at0)).other W34 (Or.inl ao0))
  refine au0 X34 hx hZ hown (host := "") (Or.inl (z_w hw 67 rfl)) Via.refl e34 G35 (hb hby by8) (fun T36 X36 e36 => ?_)
  refine ae0 X36 hx (hb hby bz8) rfl rfl ?_
  refine bi0 X36 hx (hb hby b9) rfl ?_
  have G37 := (((af3.keep Kq3 (ninS ap0 nin0)).other W30 (Or.inl at0)).other W34 (Or.inl ao0))
  refine au0 X36 hx hZ hown (host := "") (Or.inl (z_w hw 82 rfl)) Via.refl e36 G37 (hb hby ba9) (fun T38 X38 e38 => ?_)
  refine ck5 X38 hx (hb hby bb9) rfl rfl ?_
  refine az0 X38 hx (hb hby bc9) (z := (1 : Int32)) rfl ?_
  refine ad6 X38 hx (hb hby bd9) (z := (ag1 + (1 : Int32))) rfl ?_
  have G39 := (((E_o0.keep Kq3).wr W30).wr W34)
  refine am4 X38 hx hZ hown (host := "") (Or.inl (z_w hw 82 rfl)) Via.refl e38 G37 G39 (Or.inl (z_w hw 83 rfl)) (z_w hw 54 rfl) (ty := .int) (by decide) (hb hby be9) (fun T40 h40 X40 e40 W40 => ?_)
  have N40 := Fr.snoc X40 N34 ah2
  have K40 := Keep.wr K34 W40 (Or.inl (List.mem_of_getElem? (i := 0) rfl))
  have F40 := G37.same W40
  refine ae1 X40 hx (hb hby bf9) rfl ?_
  have G41 := ((((aj4.keep Kq3 (ninS as1 nin0)).other W30 aq1.symm).other W34 al1.symm).other W40 ay0.symm)
  refine bh0 X40 hx hZ e40 G41 (j := ag1) (v := (aw0 (aw0 (ac0 c0)))) (i := (ah0 ag1)) (cw1 hz) (by rw [hU]; exact cx1 hz) (hb hby bg9) (fun T42 h42 X42 e42 W42 B42 => ?_)
  have A42 : ah1 Z h42 an0 (U.set (ah0 ag1) (aw0 (aw0 (ac0 c0)))) := B42
  have N42 := Fr.snoc X42 N40 ax3
  have K42 := Keep.wr K40 W42 (Or.inl (List.mem_of_getElem? (i := 3) rfl))
  refine az0 X42 hx (hb hby bh9) (z := (1 : Int32)) rfl ?_
  refine as4 X42 hx (hb hby bi9) (l' := #[.val (.ref o0), .val (.ref o1), .val (.int (15 : Int32)), .val (.int (aw0 (aw0 (ac0 c0)))), .val (.int (1 : Int32))]) rfl ?_
  refine ae0 X42 hx (hb hby bj9) rfl rfl ?_
  have G43 := (F40.other W42 (Or.inl ay0))
  refine au0 X42 hx hZ hown (host := "") (Or.inl (z_w hw 82 rfl)) Via.refl e42 G43 (hb hby bk9) (fun T44 X44 e44 => ?_)
  refine az0 X44 hx (hb hby bl9) (z := (2 : Int32)) rfl ?_
  refine cp7 X44 hx (hb hby bm9) (z := ((ag1 + (1 : Int32)) * (2 : Int32))) rfl ?_
  refine ae0 X44 hx (hb hby bn9) rfl rfl ?_
  have G45 := ((((G5.other W30 (Or.inl at0)).other W34 (Or.inl ao0)).other W40 (Or.inr (slot_ne (Or.inl (z_w hw 63 rfl)) (Or.inl (z_w hw 83 rfl)) (by decide) (t := (.array (.object z_s2))) (t' := .int) (by decide) (by decide)))).other W42 (Or.inl ay0))
  refine au0 X44 hx hZ hown (host := "") (Or.inl (z_w hw 62 rfl)) Via.refl e44 G45 (hb hby bo9) (fun T46 X46 e46 => ?_)
  have G47 := (((A30.other W34 aj1).other W40 at0.symm).other W42 aq1)
  refine ao9 X46 hx hZ e46 G47 (z := (16 : Int32)) (show Int32.ofNat (N.set (ah0 (aw0 (aw0 (ac0 c0)))) (.ref o1)).length = (16 : Int32) from by simp only [List.length_set, hN]; rfl) (hb hby bp9) ?_
  have hd48 : ¬ ((16 : Int32) < ((ag1 + (1 : Int32)) * (2 : Int32))) := by exact cy1 hz
  refine au3 X46 hx (pc' := 165) (hb hby bq9) (flt hd48).2.2.2 ?_
  refine ae0 X46 hx (hb hby bu1) rfl rfl ?_
  refine ae0 X46 hx (hb hby bv1) rfl rfl ?_
  have G49 := (((((av2.keep Kq3 (ninS ap0 nin0)).other W30 (Or.inl at0)).other W34 (Or.inl ao0)).other W40 (Or.inr (slot_ne (Or.inl (z_w hw 85 rfl)) (Or.inl (z_w hw 83 rfl)) (by decide) (t := (.object z_s2)) (t' := .int) (by decide) (by decide)))).other W42 (Or.inl ay0))
  have G50 := ((G39.wr W40).wr W42)
  refine am4 X46 hx hZ hown (host := "") (Or.inl (z_w hw 84 rfl)) Via.refl e46 G49 G50 (Or.inl (z_w hw 85 rfl)) (z_w hw 54 rfl) (ty := (.object z_s2)) (by decide) (hb hby bw1) (fun T51 h51 X51 e51 W51 => ?_)
  have N51 := Fr.snoc X51 N42 ah2
  have K51 := Keep.wr K42 W51 (Or.inl (List.mem_of_getElem? (i := 0) rfl))
  have F51 := G49.same W51
  refine ae0 X51 hx (hb hby bx1) rfl rfl ?_
  refine ae1 X51 hx (hb hby by1) rfl ?_
  have G52 := ((((((ap2.keep Kq3 (ninS ap0 nin0)).other W30 (Or.inl at0)).other W34 (Or.inl ao0)).other W40 (Or.inr (slot_ne (Or.inl (z_w hw 118 rfl)) (Or.inl (z_w hw 83 rfl)) (by decide) (t := .int) (t' := .int) (by decide) (by decide)))).other W42 (Or.inl ay0)).other W51 (Or.inr (slot_ne (Or.inl (z_w hw 118 rfl)) (Or.inl (z_w hw 85 rfl)) (by decide) (t := .int) (t' := (.object z_s2)) (by decide) (by decide))))
  have G53 := (G50.wr W51)
  refine am4 X51 hx hZ hown (host := "") (Or.inl (z_w hw 117 rfl)) Via.refl e51 G52 G53 (Or.inl (z_w hw 118 rfl)) (z_w hw 54 rfl) (ty := .int) (by decide) (hb hby bz1) (fun T54 h54 X54 e54 W54 => ?_)
  have N54 := Fr.snoc X54 N51 ah2
  have K54 := Keep.wr K51 W54 (Or.inl (List.mem_of_getElem? (i := 0) rfl))
  have F54 := G52.same W54
  refine ay1 X54 hx (hb hby ba2) rfl ?_
  refine ao7 X54 hx hlk hP hrt (hb hby bb2) (by decide) (by decide) ?_
  have G55 := (G53.wr W54)
  have G56 := ((G45.other W51 (Or.inr (slot_ne (Or.inl (z_w hw 63 rfl)) (Or.inl (z_w hw 85 rfl)) (by decide) (t := (.array (.object z_s2))) (t' := (.object z_s2)) (by decide) (by decide)))).other W54 (Or.inr (slot_ne (Or.inl (z_w hw 63 rfl)) (Or.inl (z_w hw 118 rfl)) (by decide) (t := (.array (.object z_s2))) (t' := .int) (by decide) (by decide))))
  have G57 := (((((G31.other W34 (Or.inl ao0)).other W40 (Or.inr (slot_ne (Or.inl (z_w hw 66 rfl)) (Or.inl (z_w hw 83 rfl)) (by decide) (t := (.array .int)) (t' := .int) (by decide) (by decide)))).other W42 (Or.inl ay0)).other W51 (Or.inr (slot_ne (Or.inl (z_w hw 66 rfl)) (Or.inl (z_w hw 85 rfl)) (by decide) (t := (.array .int)) (t' := (.object z_s2)) (by decide) (by decide)))).other W54 (Or.inr (slot_ne (Or.inl (z_w hw 66 rfl)) (Or.inl (z_w hw 118 rfl)) (by decide) (t := (.array .int)) (t' := .int) (by decide) (by decide))))
  have G58 := ((((G35.other W40 (Or.inr (slot_ne (Or.inl (z_w hw 68 rfl)) (Or.inl (z_w hw 83 rfl)) (by decide) (t := (.array .int)) (t' := .int) (by decide) (by decide)))).other W42 (Or.inl ay0)).other W51 (Or.inr (slot_ne (Or.inl (z_w hw 68 rfl)) (Or.inl (z_w hw 85 rfl)) (by decide) (t := (.array .int)) (t' := (.object z_s2)) (by decide) (by decide)))).other W54 (Or.inr (slot_ne (Or.inl (z_w hw 68 rfl)) (Or.inl (z_w hw 118 rfl)) (by decide) (t := (.array .int)) (t' := .int) (by decide) (by decide))))
  have G59 := ((G43.other W51 (Or.inr (slot_ne (Or.inl (z_w hw 83 rfl)) (Or.inl (z_w hw 85 rfl)) (by decide) (t := .int) (t' := (.object z_s2)) (by decide) (by decide)))).other W54 (Or.inr (slot_ne (Or.inl (z_w hw 83 rfl)) (Or.inl (z_w hw 118 rfl)) (by decide) (t := .int) (t' := .int) (by decide) (by decide))))
  have G60 := (F51.other W54 (Or.inr (slot_ne (Or.inl (z_w hw 85 rfl)) (Or.inl (z_w hw 118 rfl)) (by decide) (t := (.object z_s2)) (t' := .int) (by decide) (by decide))))
  have G61 := ((G47.other W51 at0.symm).other W54 at0.symm)
  have G62 := ((((A34.other W40 ao0.symm).other W42 al1).other W51 ao0.symm).other W54 ao0.symm)
  have G63 := ((A42.other W51 ay0.symm).other W54 ay0.symm)
  have G64 := ((((((f0_3.wr W30).wr W34).wr W40).wr W42).wr W51).wr W54)
  have G65 := ((((((f1_3.other W30 (Or.inl ao1.symm)).other W34 (Or.inl ab1.symm)).other W40 (Or.inl ap0.symm)).other W42 (Or.inl as1.symm)).other W51 (Or.inl ap0.symm)).other W54 (Or.inl ap0.symm))
  have G66 := ((((((f2_3.other W30 (Or.inl ao1.symm)).other W34 (Or.inl ab1.symm)).other W40 (Or.inl ap0.symm)).other W42 (Or.inl as1.symm)).other W51 (Or.inl ap0.symm)).other W54 (Or.inl ap0.symm))
  have G67 := ((((((f3_3.other W30 (Or.inl ao1.symm)).other W34 (Or.inl ab1.symm)).other W40 (Or.inl ap0.symm)).other W42 (Or.inl as1.symm)).other W51 (Or.inl ap0.symm)).other W54 (Or.inl ap0.symm))
  have G68 := ((((((f4_3.other W30 (Or.inl ao1.symm)).other W34 (Or.inl ab1.symm)).other W40 (Or.inl ap0.symm)).other W42 (Or.inl as1.symm)).other W51 (Or.inl ap0.symm)).other W54 (Or.inl ap0.symm))
  have hfin : (fun (v : Option Value) (h : Heap) (L : List Loc) => v = some (.int (ax0 false k)) ∧ Fr n0 L ∧ Keep h0 h [o0, aj0, ag0, an0, o1] ∧ Exa Z h o0 z_s0 ∧ Fld Z h o0 z_s0 "names" z_s8 (.ref aj0) ∧ Fld Z h o0 z_s0 "counts" "[I" (.ref ag0) ∧ Fld Z h o0 z_s0 "used" "[I" (.ref an0) ∧ Fld Z h o0 z_s0 "size" "I" (.int (ac5 false ag1)) ∧ Fld Z h o0 z_s0 "last" z_s5 (.ref o1) ∧ Fld Z h o0 z_s0 "lastSlot" "I" (.int (aw0 (aw0 (ac0 c0)))) ∧ (ac2 z_s2) Z h aj0 (ap4 false N (ah0 (aw0 (aw0 (ac0 c0)))) o1) ∧ ah1 Z h ag0 (ai3 false Cn (ah0 (aw0 (aw0 (ac0 c0)))) k) ∧ ah1 Z h an0 (ap6 false U (ah0 ag1) (aw0 (aw0 (ac0 c0)))) ∧ Exa Z h o1 z_s2 ∧ Fld Z h o1 z_s2 "value" "[B" (.ref am0) ∧ Fld Z h o1 z_s2 "coder" "B" (.int (0 : Int32)) ∧ Fld Z h o1 z_s2 "hash" "I" (.int (ak1 c0)) ∧ Fld Z h o1 z_s2 "hashIsZero" "Z" (.int (aj6 (ak1 c0)))) (some (.int (ax0 false k))) h54 _ := ⟨rfl, N54, K54, G55, G56, G57, G58, G59, G60, F54, G61, G62, G63, G64, G65, G66, G67, G68⟩
  rw [e54]; exact hfin
theorem ev0 (m : MethodId) (o0 : Addr) (o1 : Addr) : entryFrame m #[(.ref o0), (.ref o1)] 5 = mkF m 0 #[.val (.ref o0), .val (.ref o1), .unset, .unset, .unset] [] := by first | (simp [entryFrame, mkF, argsToLocals, Value.category]; done) | rfl
set_option maxRecDepth 65536 in
set_option maxHeartbeats 40000000 in
theorem ez2 (l : Launch) (Z : State) (a0 : Array Value) (hw : ∀ d ∈ tables_1, d.before a0 Z = true) (ws : List Jvm.Cond) (o0 : Addr) (o1 : Addr) (c0 : Int32) (N : List Value) (Cn : List Int32) (U : List Int32) (k : Int32) (aj0 : Addr) (ag0 : Addr) (an0 : Addr) (ag1 : Int32) (av1 : Int32) (am0 : Addr) (ab0 : Int32) (h0 : Heap) (n0 : Nat) (Z0 : n0 ≤ h0.size) (E_o0 : Exa Z h0 o0 z_s0) (E_o1 : Exa Z h0 o1 z_s2) (ar2 : Fld Z h0 o0 z_s0 "names" z_s8 (.ref aj0)) (aw2 : Fld Z h0 o0 z_s0 "counts" "[I" (.ref ag0)) (ah4 : Fld Z h0 o0 z_s0 "used" "[I" (.ref an0)) (af3 : Fld Z h0 o0 z_s0 "size" "I" (.int ag1)) (av2 : Fld Z h0 o0 z_s0 "last" z_s5 .null) (ap2 : Fld Z h0 o0 z_s0 "lastSlot" "I" (.int av1)) (ag3 : Fld Z h0 o1 z_s2 "value" "[B" (.ref am0)) (ah3 : Fld Z h0 o1 z_s2 "coder" "B" (.int (0 : Int32))) (an3 : Fld Z h0 o1 z_s2 "hash" "I" (.int (0 : Int32))) (aa2 : Fld Z h0 o1 z_s2 "hashIsZero" "Z" (.int (0 : Int32))) (ar0 : Sta Z h0 z_s2 "COMPACT_STRINGS" "Z" (.int ab0)) (an2 : (ac2 z_s2) Z h0 aj0 N) (at2 : ah1 Z h0 ag0 Cn) (aj4 : ah1 Z h0 an0 U) (aj2 : ax2 Z h0 am0 [c0]) (ah2 : n0 ≤ o0) (am3 : n0 ≤ aj0) (am2 : n0 ≤ ag0) (ax3 : n0 ≤ an0) (ae6 : n0 ≤ o1) (at0 : o0 ≠ aj0) (ao0 : o0 ≠ ag0) (ay0 : o0 ≠ an0) (ap0 : o0 ≠ o1) (aj1 : aj0 ≠ ag0) (aq1 : aj0 ≠ an0) (ao1 : aj0 ≠ o1) (al1 : ag0 ≠ an0) (ab1 : ag0 ≠ o1) (as1 : an0 ≠ o1) (az2 : o0 ≠ am0) (ak2 : aj0 ≠ am0) (ag2 : ag0 ≠ am0) (al2 : an0 ≠ am0) (ae2 : o1 ≠ am0) (hnz : ¬ (ab0 = (0 : Int32))) (hN : N.length = 16) (hCn : Cn.length = 16) (hU : U.length = 16) (hz : bg0 ag1) (hp0 : N[ah0 (ac0 c0)]? = some .null) :
    ab3 l Z (⟨z_s0, "count", z_s9⟩ : MethodName) prog_128_method_2_code 5 (some .int) ws ({ frames := 2, cells := 0, slots := 0, locals := 28 } : Room) #[(.ref o0), (.ref o1)] h0 (fun (v : Option Value) (h : Heap) (L : List Loc) => v = some (.int (ax0 false k)) ∧ Fr n0 L ∧ Keep h0 h [o0, aj0, ag0, an0, o1] ∧ Exa Z h o0 z_s0 ∧ Fld Z h o0 z_s0 "names" z_s8 (.ref aj0) ∧ Fld Z h o0 z_s0 "counts" "[I" (.ref ag0) ∧ Fld Z h o0 z_s0 "used" "[I" (.ref an0) ∧ Fld Z h o0 z_s0 "size" "I" (.int (ac5 false ag1)) ∧ Fld Z h o0 z_s0 "last" z_s5 (.ref o1) ∧ Fld Z h o0 z_s0 "lastSlot" "I" (.int (ac0 c0)) ∧ (ac2 z_s2) Z h aj0 (ap4 false N (ah0 (ac0 c0)) o1) ∧ ah1 Z h ag0 (ai3 false Cn (ah0 (ac0 c0)) k) ∧ ah1 Z h an0 (ap6 false U (ah0 ag1) (ac0 c0)) ∧ Exa Z h o1 z_s2 ∧ Fld Z h o1 z_s2 "value" "[B" (.ref am0) ∧ Fld Z h o1 z_s2 "coder" "B" (.int (0 : Int32)) ∧ Fld Z h o1 z_s2 "hash" "I" (.int (ak1 c0)) ∧ Fld Z h o1 z_s2 "hashIsZero" "Z" (.int (aj6 (ak1 c0)))) := by
  refine al3 (plainFor_of_name aa1) ?_
  intro p e s m below meth c s₁ P hx hby hml hrt hlk hown hnm hZ X0 e0 hP
  have N0 := Fr.nil n0
  have K0 := Keep.refl h0 [o0, aj0, ag0, an0, o1]
  have hml' : c.maxLocals = 5 := hml
  refine ac4 (ev0 m o0 o1) ?_
  show aa0 p e below P (s₁.setTop (mkF m 0 #[.val (.ref o0), .val (.ref o1), .unset, .unset, .unset] []))
  refine ae0 X0 hx (hb hby bl2) rfl rfl ?_
  refine ae0 X0 hx (hb hby bm2) rfl rfl ?_
  refine au0 X0 hx hZ hown (host := "") (Or.inl (z_w hw 84 rfl)) Via.refl e0 av2 (hb hby bn2) (fun T1 X1 e1 => ?_)
  refine bi1 X1 hx rfl rfl (pc' := 23) (same := false) (hb hby bo2) (decide_eq_false nofun) ?_
  refine ae0 X1 hx (hb hby bs2) rfl rfl ?_
  refine au0 X1 hx hZ hown (host := "") (Or.inl (z_w hw 62 rfl)) Via.refl e1 ar2 (hb hby bt2) (fun T2 X2 e2 => ?_)
  refine ao9 X2 hx hZ e2 an2 (z := (16 : Int32)) (show Int32.ofNat N.length = (16 : Int32) from by simp only [List.length_set, hN]; rfl) (hb hby bu2) ?_
  refine az0 X2 hx (hb hby bv2) (z := (1 : Int32)) rfl ?_
  refine bt1 X2 hx (hb hby bw2) (z := (15 : Int32)) rfl ?_
  refine ag4 X2 hx (hb hby bx2) (l' := #[.val (.ref o0), .val (.ref o1), .val (.int (15 : Int32)), .unset, .unset]) rfl ?_
  refine ae0 X2 hx (hb hby by2) rfl rfl ?_
  refine az1 X2 hx hZ (y := (⟨z_s2, "hashCode", "()I"⟩ : MethodName)) (z := (⟨z_s2, "hashCode", "()I"⟩ : MethodName)) hown (z_w hw 97 rfl) (z_w hw 98 rfl) (notFace_of_selects (args := #[]) (mvT hZ (z_w hw 100 rfl))) (z_w hw 100 rfl) (z_w hw 99 rfl) (z_w hw 2 rfl) (z_w hw 101 rfl) E_o1 (cg0 l Z a0 hw [] o1 c0 am0 ab0 h0 n0 (Nat.le_trans Z0 K0.1) E_o1 ag3 ah3 an3 aa2 ar0 aj2 ae6 hnz) 0 e2 hml' (argsL := []) (rest := []) (lenOf au4 rfl) (hb hby bz2) (fun r3 T3 L3 X3 hQ3 => ?_)
  obtain ⟨rfl, Nq3, Kq3, f0_3, f1_3, f2_3, f3_3, f4_3⟩ := hQ3
  have N3 := Fr.app N0 Nq3
  have K3 := Keep.trans K0 Kq3 (allS (Or.inl (List.mem_of_getElem? (i := 4) rfl)) all0)
  show aa0 p e below P (T3.setTop (mkF m 35 #[.val (.ref o0), .val (.ref o1), .val (.int (15 : Int32)), .unset, .unset] [(.int (ak1 c0))]))
  refine as5 X3 hx hZ (y := (⟨z_s0, "spread", "(I)I"⟩ : MethodName)) hown (z_w hw 114 rfl) (z_w hw 115 rfl) (z_w hw 55 rfl) (z_w hw 116 rfl) (cd0 l Z a0 hw [] (ak1 c0)  T3.heap n0 (Nat.le_trans Z0 K3.1) ) 0 rfl hml' (argsL := [(.int (ak1 c0))]) (rest := []) (lenOf bm0 rfl) (hb hby ba3) (fun r4 T4 L4 X4 hQ4 => ?_)
  obtain ⟨rfl, Nq4, eq4⟩ := hQ4
  have N4 := Fr.app N3 Nq4
  show aa0 p e below P (T4.setTop (mkF m 38 #[.val (.ref o0), .val (.ref o1), .val (.int (15 : Int32)), .unset, .unset] [(.int (ap9 (ak1 c0)))]))
  refine ae1 X4 hx (hb hby bb3) rfl ?_
  refine az7 X4 hx (hb hby bc3) (z := ((ap9 (ak1 c0)) &&& (15 : Int32))) rfl ?_
  show aa0 p e below P (T4.setTop (mkF m 40 #[.val (.ref o0), .val (.ref o1), .val (.int (15 : Int32)), .unset, .unset] [(.int (ac0 c0))]))
  refine ag4 X4 hx (hb hby bd3) (l' := #[.val (.ref o0), .val (.ref o1), .val (.int (15 : Int32)), .val (.int (ac0 c0)), .unset]) rfl ?_
  refine ae0 X4 hx (hb hby a9) rfl rfl ?_
  have G5 := (ar2.keep Kq3 (ninS ap0 nin0))
  refine au0 X4 hx hZ hown (host := "") (Or.inl (z_w hw 62 rfl)) Via.refl eq4 G5 (hb hby aa9) (fun T6 X6 e6 => ?_)
  refine ae1 X6 hx (hb hby ab9) rfl ?_
  have G7 := (an2.keep Kq3 (ninS ao1 nin0))
  refine ay2 X6 hx hZ e6 G7 (j := (ac0 c0)) (v := .null) (i := (ah0 (ac0 c0))) (ay4 _) hp0 (hb hby ac9) ?_
  refine bq1 X6 hx (pc' := 82) (hb hby ad9) ?_
  refine ae0 X6 hx (hb hby bk3) rfl rfl ?_
  refine au0 X6 hx hZ hown (host := "") (Or.inl (z_w hw 62 rfl)) Via.refl e6 G5 (hb hby bl3) (fun T8 X8 e8 => ?_)
  refine ae1 X8 hx (hb hby bm3) rfl ?_
  refine ay2 X8 hx hZ e8 G7 (j := (ac0 c0)) (v := .null) (i := (ah0 (ac0 c0))) (ay4 _) hp0 (hb hby bn3) ?_
  refine bq1 X8 hx (pc' := 107) (hb hby bo3) ?_
  refine ae0 X8 hx (hb hby bn8) rfl rfl ?_
  refine au0 X8 hx hZ hown (host := "") (Or.inl (z_w hw 62 rfl)) Via.refl e8 G5 (hb hby bo8) (fun T9 X9 e9 => ?_)
  refine ae1 X9 hx (hb hby bp8) rfl ?_
  refine ae0 X9 hx (hb hby bq8) rfl rfl ?_
  refine bf8 X9 hx hZ e9 G7 (j := (ac0 c0)) (v := (.ref o1)) (i := (ah0 (ac0 c0))) (ay4 _) (by rw [hN]; exact (a5 _)) (Or.inr ⟨_, rfl, Ins.self f0_3⟩) (hb hby br8) (fun T10 h10 X10 e10 W10 B10 => ?_)
  have A10 : (ac2 z_s2) Z h10 aj0 (N.set (ah0 (ac0 c0)) (.ref o1)) := B10
  have N10 := Fr.snoc X10 N4 am3
  have K10 := Keep.wr K3 W10 (Or.inl (List.mem_of_getElem? (i := 1) rfl))
  refine ae0 X10 hx (hb hby bs8) rfl rfl ?_
  have G11 := ((aw2.keep Kq3 (ninS ap0 nin0)).other W10 (Or.inl at0))
  refine au0 X10 hx hZ hown (host := "") (Or.inl (z_w hw 65 rfl)) Via.refl e10 G11 (hb hby bt8) (fun T12 X12 e12 => ?_)
  refine ae1 X12 hx (hb hby bu8) rfl ?_
  refine az0 X12 hx (hb hby bv8) (z := (1 : Int32)) rfl ?_
  have G13 := ((at2.keep Kq3 (ninS ab1 nin0)).other W10 aj1.symm)
  refine bh0 X12 hx hZ e12 G13 (j := (ac0 c0)) (v := (1 : Int32)) (i := (ah0 (ac0 c0))) (ay4 _) (by rw [hCn]; exact (a5 _)) (hb hby bw8) (fun T14 h14 X14 e14 W14 B14 => ?_)
  have A14 : ah1 Z h14 ag0 (Cn.set (ah0 (ac0 c0)) (1 : Int32)) := B14
  have N14 := Fr.snoc X14 N10 am2
  have K14 := Keep.wr K10 W14 (Or.inl (List.mem_of_getElem? (i := 2) rfl))
  refine ae0 X14 hx (hb hby bx8) rfl rfl ?_
  have G15 := (((ah4.keep Kq3 (ninS ap0 nin0)).other W10 (Or.inl at0)).other W14 (Or.inl ao0))
  refine au0 X14 hx hZ hown (host := "") (Or.inl (z_w hw 67 rfl)) Via.refl e14 G15 (hb hby by8) (fun T16 X16 e16 => ?_)
  refine ae0 X16 hx (hb hby bz8) rfl rfl ?_
  refine bi0 X16 hx (hb hby b9) rfl ?_
  have G17 := (((af3.keep Kq3 (ninS ap0 nin0)).other W10 (Or.inl at0)).other W14 (Or.inl ao0))
  refine au0 X16 hx hZ hown (host := "") (Or.inl (z_w hw 82 rfl)) Via.refl e16 G17 (hb hby ba9) (fun T18 X18 e18 => ?_)
  refine ck5 X18 hx (hb hby bb9) rfl rfl ?_
  refine az0 X18 hx (hb hby bc9) (z := (1 : Int32)) rfl ?_
  refine ad6 X18 hx (hb hby bd9) (z := (ag1 + (1 : Int32))) rfl ?_
  have G19 := (((E_o0.keep Kq3).wr W10).wr W14)
  refine am4 X18 hx hZ hown (host := "") (Or.inl (z_w hw 82 rfl)) Via.refl e18 G17 G19 (Or.inl (z_w hw 83 rfl)) (z_w hw 54 rfl) (ty := .int) (by decide) (hb hby be9) (fun T20 h20 X20 e20 W20 => ?_)
  have N20 := Fr.snoc X20 N14 ah2
  have K20 := Keep.wr K14 W20 (Or.inl (List.mem_of_getElem? (i := 0) rfl))
  have F20 := G17.same W20
  refine ae1 X20 hx (hb hby bf9) rfl ?_
  have G21 := ((((aj4.keep Kq3 (ninS as1 nin0)).other W10 aq1.symm).other W14 al1.symm).other W20 ay0.symm)
  refine bh0 X20 hx hZ e20 G21 (j := ag1) (v := (ac0 c0)) (i := (ah0 ag1)) (cw1 hz) (by rw [hU]; exact cx1 hz) (hb hby bg9) (fun T22 h22 X22 e22 W22 B22 => ?_)
  have A22 : ah1 Z h22 an0 (U.set (ah0 ag1) (ac0 c0)) := B22
  have N22 := Fr.snoc X22 N20 ax3
  have K22 := Keep.wr K20 W22 (Or.inl (List.mem_of_getElem? (i := 3) rfl))
  refine az0 X22 hx (hb hby bh9) (z := (1 : Int32)) rfl ?_
  refine as4 X22 hx (hb hby bi9) (l' := #[.val (.ref o0), .val (.ref o1), .val (.int (15 : Int32)), .val (.int (ac0 c0)), .val (.int (1 : Int32))]) rfl ?_
  refine ae0 X22 hx (hb hby bj9) rfl rfl ?_
  have G23 := (F20.other W22 (Or.inl ay0))
  refine au0 X22 hx hZ hown (host := "") (Or.inl (z_w hw 82 rfl)) Via.refl e22 G23 (hb hby bk9) (fun T24 X24 e24 => ?_)
  refine az0 X24 hx (hb hby bl9) (z := (2 : Int32)) rfl ?_
  refine cp7 X24 hx (hb hby bm9) (z := ((ag1 + (1 : Int32)) * (2 : Int32))) rfl ?_
  refine ae0 X24 hx (hb hby bn9) rfl rfl ?_
  have G25 := ((((G5.other W10 (Or.inl at0)).other W14 (Or.inl ao0)).other W20 (Or.inr (slot_ne (Or.inl (z_w hw 63 rfl)) (Or.inl (z_w hw 83 rfl)) (by decide) (t := (.array (.object z_s2))) (t' := .int) (by decide) (by decide)))).other W22 (Or.inl ay0))
  refine au0 X24 hx hZ hown (host := "") (Or.inl (z_w hw 62 rfl)) Via.refl e24 G25 (hb hby bo9) (fun T26 X26 e26 => ?_)
  have G27 := (((A10.other W14 aj1).other W20 at0.symm).other W22 aq1)
  refine ao9 X26 hx hZ e26 G27 (z := (16 : Int32)) (show Int32.ofNat (N.set (ah0 (ac0 c0)) (.ref o1)).length = (16 : Int32) from by simp only [List.length_set, hN]; rfl) (hb hby bp9) ?_
  have hd28 : ¬ ((16 : Int32) < ((ag1 + (1 : Int32)) * (2 : Int32))) := by exact cy1 hz
  refine au3 X26 hx (pc' := 165) (hb hby bq9) (flt hd28).2.2.2 ?_
  refine ae0 X26 hx (hb hby bu1) rfl rfl ?_
  refine ae0 X26 hx (hb hby bv1) rfl rfl ?_
  have G29 := (((((av2.keep Kq3 (ninS ap0 nin0)).other W10 (Or.inl at0)).other W14 (Or.inl ao0)).other W20 (Or.inr (slot_ne (Or.inl (z_w hw 85 rfl)) (Or.inl (z_w hw 83 rfl)) (by decide) (t := (.object z_s2)) (t' := .int) (by decide) (by decide)))).other W22 (Or.inl ay0))
  have G30 := ((G19.wr W20).wr W22)
  refine am4 X26 hx hZ hown (host := "") (Or.inl (z_w hw 84 rfl)) Via.refl e26 G29 G30 (Or.inl (z_w hw 85 rfl)) (z_w hw 54 rfl) (ty := (.object z_s2)) (by decide) (hb hby bw1) (fun T31 h31 X31 e31 W31 => ?_)
  have N31 := Fr.snoc X31 N22 ah2
  have K31 := Keep.wr K22 W31 (Or.inl (List.mem_of_getElem? (i := 0) rfl))
  have F31 := G29.same W31
  refine ae0 X31 hx (hb hby bx1) rfl rfl ?_
  refine ae1 X31 hx (hb hby by1) rfl ?_
  have G32 := ((((((ap2.keep Kq3 (ninS ap0 nin0)).other W10 (Or.inl at0)).other W14 (Or.inl ao0)).other W20 (Or.inr (slot_ne (Or.inl (z_w hw 118 rfl)) (Or.inl (z_w hw 83 rfl)) (by decide) (t := .int) (t' := .int) (by decide) (by decide)))).other W22 (Or.inl ay0)).other W31 (Or.inr (slot_ne (Or.inl (z_w hw 118 rfl)) (Or.inl (z_w hw 85 rfl)) (by decide) (t := .int) (t' := (.object z_s2)) (by decide) (by decide))))
  have G33 := (G30.wr W31)
  refine am4 X31 hx hZ hown (host := "") (Or.inl (z_w hw 117 rfl)) Via.refl e31 G32 G33 (Or.inl (z_w hw 118 rfl)) (z_w hw 54 rfl) (ty := .int) (by decide) (hb hby bz1) (fun T34 h34 X34 e34 W34 => ?_)
  have N34 := Fr.snoc X34 N31 ah2
  have K34 := Keep.wr K31 W34 (Or.inl (List.mem_of_getElem? (i := 0) rfl))
  have F34 := G32.same W34
  refine ay1 X34 hx (hb hby ba2) rfl ?_
  refine ao7 X34 hx hlk hP hrt (hb hby bb2) (by decide) (by decide) ?_
  have G35 := (G33.wr W34)
  have G36 := ((G25.other W31 (Or.inr (slot_ne (Or.inl (z_w hw 63 rfl)) (Or.inl (z_w hw 85 rfl)) (by decide) (t := (.array (.object z_s2))) (t' := (.object z_s2)) (by decide) (by decide)))).other W34 (Or.inr (slot_ne (Or.inl (z_w hw 63 rfl)) (Or.inl (z_w hw 118 rfl)) (by decide) (t := (.array (.object z_s2))) (t' := .int) (by decide) (by decide))))
  have G37 := (((((G11.other W14 (Or.inl ao0)).other W20 (Or.inr (slot_ne (Or.inl (z_w hw 66 rfl)) (Or.inl (z_w hw 83 rfl)) (by decide) (t := (.array .int)) (t' := .int) (by decide) (by decide)))).other W22 (Or.inl ay0)).other W31 (Or.inr (slot_ne (Or.inl (z_w hw 66 rfl)) (Or.inl (z_w hw 85 rfl)) (by decide) (t := (.array .int)) (t' := (.object z_s2)) (by decide) (by decide)))).other W34 (Or.inr (slot_ne (Or.inl (z_w hw 66 rfl)) (Or.inl (z_w hw 118 rfl)) (by decide) (t := (.array .int)) (t' := .int) (by decide) (by decide))))
  have G38 := ((((G15.other W20 (Or.inr (slot_ne (Or.inl (z_w hw 68 rfl)) (Or.inl (z_w hw 83 rfl)) (by decide) (t := (.array .int)) (t' := .int) (by decide) (by decide)))).other W22 (Or.inl ay0)).other W31 (Or.inr (slot_ne (Or.inl (z_w hw 68 rfl)) (Or.inl (z_w hw 85 rfl)) (by decide) (t := (.array .int)) (t' := (.object z_s2)) (by decide) (by decide)))).other W34 (Or.inr (slot_ne (Or.inl (z_w hw 68 rfl)) (Or.inl (z_w hw 118 rfl)) (by decide) (t := (.array .int)) (t' := .int) (by decide) (by decide))))
  have G39 := ((G23.other W31 (Or.inr (slot_ne (Or.inl (z_w hw 83 rfl)) (Or.inl (z_w hw 85 rfl)) (by decide) (t := .int) (t' := (.object z_s2)) (by decide) (by decide)))).other W34 (Or.inr (slot_ne (Or.inl (z_w hw 83 rfl)) (Or.inl (z_w hw 118 rfl)) (by decide) (t := .int) (t' := .int) (by decide) (by decide))))
  have G40 := (F31.other W34 (Or.inr (slot_ne (Or.inl (z_w hw 85 rfl)) (Or.inl (z_w hw 118 rfl)) (by decide) (t := (.object z_s2)) (t' := .int) (by decide) (by decide))))
  have G41 := ((G27.other W31 at0.symm).other W34 at0.symm)
  have G42 := ((((A14.other W20 ao0.symm).other W22 al1).other W31 ao0.symm).other W34 ao0.symm)
  have G43 := ((A22.other W31 ay0.symm).other W34 ay0.symm)
  have G44 := ((((((f0_3.wr W10).wr W14).wr W20).wr W22).wr W31).wr W34)
  have G45 := ((((((f1_3.other W10 (Or.inl ao1.symm)).other W14 (Or.inl ab1.symm)).other W20 (Or.inl ap0.symm)).other W22 (Or.inl as1.symm)).other W31 (Or.inl ap0.symm)).other W34 (Or.inl ap0.symm))
  have G46 := ((((((f2_3.other W10 (Or.inl ao1.symm)).other W14 (Or.inl ab1.symm)).other W20 (Or.inl ap0.symm)).other W22 (Or.inl as1.symm)).other W31 (Or.inl ap0.symm)).other W34 (Or.inl ap0.symm))
  have G47 := ((((((f3_3.other W10 (Or.inl ao1.symm)).other W14 (Or.inl ab1.symm)).other W20 (Or.inl ap0.symm)).other W22 (Or.inl as1.symm)).other W31 (Or.inl ap0.symm)).other W34 (Or.inl ap0.symm))
  have G48 := ((((((f4_3.other W10 (Or.inl ao1.symm)).other W14 (Or.inl ab1.symm)).other W20 (Or.inl ap0.symm)).other W22 (Or.inl as1.symm)).other W31 (Or.inl ap0.symm)).other W34 (Or.inl ap0.symm))
  have hfin : (fun (v : Option Value) (h : Heap) (L : List Loc) => v = some (.int (ax0 false k)) ∧ Fr n0 L ∧ Keep h0 h [o0, aj0, ag0, an0, o1] ∧ Exa Z h o0 z_s0 ∧ Fld Z h o0 z_s0 "names" z_s8 (.ref aj0) ∧ Fld Z h o0 z_s0 "counts" "[I" (.ref ag0) ∧ Fld Z h o0 z_s0 "used" "[I" (.ref an0) ∧ Fld Z h o0 z_s0 "size" "I" (.int (ac5 false ag1)) ∧ Fld Z h o0 z_s0 "last" z_s5 (.ref o1) ∧ Fld Z h o0 z_s0 "lastSlot" "I" (.int (ac0 c0)) ∧ (ac2 z_s2) Z h aj0 (ap4 false N (ah0 (ac0 c0)) o1) ∧ ah1 Z h ag0 (ai3 false Cn (ah0 (ac0 c0)) k) ∧ ah1 Z h an0 (ap6 false U (ah0 ag1) (ac0 c0)) ∧ Exa Z h o1 z_s2 ∧ Fld Z h o1 z_s2 "value" "[B" (.ref am0) ∧ Fld Z h o1 z_s2 "coder" "B" (.int (0 : Int32)) ∧ Fld Z h o1 z_s2 "hash" "I" (.int (ak1 c0)) ∧ Fld Z h o1 z_s2 "hashIsZero" "Z" (.int (aj6 (ak1 c0)))) (some (.int (ax0 false k))) h34 _ := ⟨rfl, N34, K34, G35, G36, G37, G38, G39, G40, F34, G41, G42, G43, G44, G45, G46, G47, G48⟩
  rw [e34]; exact hfin
theorem ea3 (m : MethodId) (o0 : Addr) (o1 : Addr) : entryFrame m #[(.ref o0), (.ref o1)] 5 = mkF m 0 #[.val (.ref o0), .val (.ref o1), .unset, .unset, .unset] [] := by first | (simp [entryFrame, mkF, argsToLocals, Value.category]; done) | rfl
set_option maxRecDepth 65536 in
set_option maxHeartbeats 40000000 in
theorem dy4 (l : Launch) (Z : State) (a0 : Array Value) (hw : ∀ d ∈ tables_1, d.before a0 Z = true) (ws : List Jvm.Cond) (o0 : Addr) (o1 : Addr) (c0 : Int32) (N : List Value) (Cn : List Int32) (U : List Int32) (k : Int32) (la : Addr) (aj0 : Addr) (ag0 : Addr) (an0 : Addr) (ag1 : Int32) (av1 : Int32) (am0 : Addr) (ab0 : Int32) (h0 : Heap) (n0 : Nat) (Z0 : n0 ≤ h0.size) (E_o0 : Exa Z h0 o0 z_s0) (E_o1 : Exa Z h0 o1 z_s2) (ar2 : Fld Z h0 o0 z_s0 "names" z_s8 (.ref aj0)) (aw2 : Fld Z h0 o0 z_s0 "counts" "[I" (.ref ag0)) (ah4 : Fld Z h0 o0 z_s0 "used" "[I" (.ref an0)) (af3 : Fld Z h0 o0 z_s0 "size" "I" (.int ag1)) (av2 : Fld Z h0 o0 z_s0 "last" z_s5 (.ref la)) (ap2 : Fld Z h0 o0 z_s0 "lastSlot" "I" (.int av1)) (ag3 : Fld Z h0 o1 z_s2 "value" "[B" (.ref am0)) (ah3 : Fld Z h0 o1 z_s2 "coder" "B" (.int (0 : Int32))) (an3 : Fld Z h0 o1 z_s2 "hash" "I" (.int (0 : Int32))) (aa2 : Fld Z h0 o1 z_s2 "hashIsZero" "Z" (.int (0 : Int32))) (ar0 : Sta Z h0 z_s2 "COMPACT_STRINGS" "Z" (.int ab0)) (an2 : (ac2 z_s2) Z h0 aj0 N) (at2 : ah1 Z h0 ag0 Cn) (aj4 : ah1 Z h0 an0 U) (aj2 : ax2 Z h0 am0 [c0]) (ah2 : n0 ≤ o0) (am3 : n0 ≤ aj0) (am2 : n0 ≤ ag0) (ax3 : n0 ≤ an0) (ae6 : n0 ≤ o1) (at0 : o0 ≠ aj0) (ao0 : o0 ≠ ag0) (ay0 : o0 ≠ an0) (ap0 : o0 ≠ o1) (aj1 : aj0 ≠ ag0) (aq1 : aj0 ≠ an0) (ao1 : aj0 ≠ o1) (al1 : ag0 ≠ an0) (ab1 : ag0 ≠ o1) (as1 : an0 ≠ o1) (az2 : o0 ≠ am0) (ak2 : aj0 ≠ am0) (ag2 : ag0 ≠ am0) (al2 : an0 ≠ am0) (ae2 : o1 ≠ am0) (bn0 : o1 ≠ la) (hnz : ¬ (ab0 = (0 : Int32))) (hN : N.length = 16) (hCn : Cn.length = 16) (hU : U.length = 16) (hz : bg0 ag1) (hp0 : N[ah0 (ac0 c0)]? = some .null) :
    ab3 l Z (⟨z_s0, "count", z_s9⟩ : MethodName) prog_128_method_2_code 5 (some .int) ws ({ frames := 2, cells := 0, slots := 0, locals := 28 } : Room) #[(.ref o0), (.ref o1)] h0 (fun (v : Option Value) (h : Heap) (L : List Loc) => v = some (.int (ax0 false k)) ∧ Fr n0 L ∧ Keep h0 h [o0, aj0, ag0, an0, o1] ∧ Exa Z h o0 z_s0 ∧ Fld Z h o0 z_s0 "names" z_s8 (.ref aj0) ∧ Fld Z h o0 z_s0 "counts" "[I" (.ref ag0) ∧ Fld Z h o0 z_s0 "used" "[I" (.ref an0) ∧ Fld Z h o0 z_s0 "size" "I" (.int (ac5 false ag1)) ∧ Fld Z h o0 z_s0 "last" z_s5 (.ref o1) ∧ Fld Z h o0 z_s0 "lastSlot" "I" (.int (ac0 c0)) ∧ (ac2 z_s2) Z h aj0 (ap4 false N (ah0 (ac0 c0)) o1) ∧ ah1 Z h ag0 (ai3 false Cn (ah0 (ac0 c0)) k) ∧ ah1 Z h an0 (ap6 false U (ah0 ag1) (ac0 c0)) ∧ Exa Z h o1 z_s2 ∧ Fld Z h o1 z_s2 "value" "[B" (.ref am0) ∧ Fld Z h o1 z_s2 "coder" "B" (.int (0 : Int32)) ∧ Fld Z h o1 z_s2 "hash" "I" (.int (ak1 c0)) ∧ Fld Z h o1 z_s2 "hashIsZero" "Z" (.int (aj6 (ak1 c0)))) := by
  refine al3 (plainFor_of_name aa1) ?_
  intro p e s m below meth c s₁ P hx hby hml hrt hlk hown hnm hZ X0 e0 hP
  have N0 := Fr.nil n0
  have K0 := Keep.refl h0 [o0, aj0, ag0, an0, o1]
  have hml' : c.maxLocals = 5 := hml
  refine ac4 (ea3 m o0 o1) ?_
  show aa0 p e below P (s₁.setTop (mkF m 0 #[.val (.ref o0), .val (.ref o1), .unset, .unset, .unset] []))
  refine ae0 X0 hx (hb hby bl2) rfl rfl ?_
  refine ae0 X0 hx (hb hby bm2) rfl rfl ?_
  refine au0 X0 hx hZ hown (host := "") (Or.inl (z_w hw 84 rfl)) Via.refl e0 av2 (hb hby bn2) (fun T1 X1 e1 => ?_)
  refine bi1 X1 hx rfl rfl (pc' := 23) (same := false) (hb hby bo2) (decide_eq_false fun q => bn0 (Value.ref.inj q)) ?_
  refine ae0 X1 hx (hb hby bs2) rfl rfl ?_
  refine au0 X1 hx hZ hown (host := "") (Or.inl (z_w hw 62 rfl)) Via.refl e1 ar2 (hb hby bt2) (fun T2 X2 e2 => ?_)
  refine ao9 X2 hx hZ e2 an2 (z := (16 : Int32)) (show Int32.ofNat N.length = (16 : Int32) from by simp only [List.length_set, hN]; rfl) (hb hby bu2) ?_
  refine az0 X2 hx (hb hby bv2) (z := (1 : Int32)) rfl ?_
  refine bt1 X2 hx (hb hby bw2) (z := (15 : Int32)) rfl ?_
  refine ag4 X2 hx (hb hby bx2) (l' := #[.val (.ref o0), .val (.ref o1), .val (.int (15 : Int32)), .unset, .unset]) rfl ?_
  refine ae0 X2 hx (hb hby by2) rfl rfl ?_
  refine az1 X2 hx hZ (y := (⟨z_s2, "hashCode", "()I"⟩ : MethodName)) (z := (⟨z_s2, "hashCode", "()I"⟩ : MethodName)) hown (z_w hw 97 rfl) (z_w hw 98 rfl) (notFace_of_selects (args := #[]) (mvT hZ (z_w hw 100 rfl))) (z_w hw 100 rfl) (z_w hw 99 rfl) (z_w hw 2 rfl) (z_w hw 101 rfl) E_o1 (cg0 l Z a0 hw [] o1 c0 am0 ab0 h0 n0 (Nat.le_trans Z0 K0.1) E_o1 ag3 ah3 an3 aa2 ar0 aj2 ae6 hnz) 0 e2 hml' (argsL := []) (rest := []) (lenOf au4 rfl) (hb hby bz2) (fun r3 T3 L3 X3 hQ3 => ?_)
  obtain ⟨rfl, Nq3, Kq3, f0_3, f1_3, f2_3, f3_3, f4_3⟩ := hQ3
  have N3 := Fr.app N0 Nq3
  have K3 := Keep.trans K0 Kq3 (allS (Or.inl (List.mem_of_getElem? (i := 4) rfl)) all0)
  show aa0 p e below P (T3.setTop (mkF m 35 #[.val (.ref o0), .val (.ref o1), .val (.int (15 : Int32)), .unset, .unset] [(.int (ak1 c0))]))
  refine as5 X3 hx hZ (y := (⟨z_s0, "spread", "(I)I"⟩ : MethodName)) hown (z_w hw 114 rfl) (z_w hw 115 rfl) (z_w hw 55 rfl) (z_w hw 116 rfl) (cd0 l Z a0 hw [] (ak1 c0)  T3.heap n0 (Nat.le_trans Z0 K3.1) ) 0 rfl hml' (argsL := [(.int (ak1 c0))]) (rest := []) (lenOf bm0 rfl) (hb hby ba3) (fun r4 T4 L4 X4 hQ4 => ?_)
  obtain ⟨rfl, Nq4, eq4⟩ := hQ4
  have N4 := Fr.app N3 Nq4
  show aa0 p e below P (T4.setTop (mkF m 38 #[.val (.ref o0), .val (.ref o1), .val (.int (15 : Int32)), .unset, .unset] [(.int (ap9 (ak1 c0)))]))
  refine ae1 X4 hx (hb hby bb3) rfl ?_
  refine az7 X4 hx (hb hby bc3) (z := ((ap9 (ak1 c0)) &&& (15 : Int32))) rfl ?_
  show aa0 p e below P (T4.setTop (mkF m 40 #[.val (.ref o0), .val (.ref o1), .val (.int (15 : Int32)), .unset, .unset] [(.int (ac0 c0))]))
  refine ag4 X4 hx (hb hby bd3) (l' := #[.val (.ref o0), .val (.ref o1), .val (.int (15 : Int32)), .val (.int (ac0 c0)), .unset]) rfl ?_
  refine ae0 X4 hx (hb hby a9) rfl rfl ?_
  have G5 := (ar2.keep Kq3 (ninS ap0 nin0))
  refine au0 X4 hx hZ hown (host := "") (Or.inl (z_w hw 62 rfl)) Via.refl eq4 G5 (hb hby aa9) (fun T6 X6 e6 => ?_)
  refine ae1 X6 hx (hb hby ab9) rfl ?_
  have G7 := (an2.keep Kq3 (ninS ao1 nin0))
  refine ay2 X6 hx hZ e6 G7 (j := (ac0 c0)) (v := .null) (i := (ah0 (ac0 c0))) (ay4 _) hp0 (hb hby ac9) ?_
  refine bq1 X6 hx (pc' := 82) (hb hby ad9) ?_
  refine ae0 X6 hx (hb hby bk3) rfl rfl ?_
  refine au0 X6 hx hZ hown (host := "") (Or.inl (z_w hw 62 rfl)) Via.refl e6 G5 (hb hby bl3) (fun T8 X8 e8 => ?_)
  refine ae1 X8 hx (hb hby bm3) rfl ?_
  refine ay2 X8 hx hZ e8 G7 (j := (ac0 c0)) (v := .null) (i := (ah0 (ac0 c0))) (ay4 _) hp0 (hb hby bn3) ?_
  refine bq1 X8 hx (pc' := 107) (hb hby bo3) ?_
  refine ae0 X8 hx (hb hby bn8) rfl rfl ?_
  refine au0 X8 hx hZ hown (host := "") (Or.inl (z_w hw 62 rfl)) Via.refl e8 G5 (hb hby bo8) (fun T9 X9 e9 => ?_)
  refine ae1 X9 hx (hb hby bp8) rfl ?_
  refine ae0 X9 hx (hb hby bq8) rfl rfl ?_
  refine bf8 X9 hx hZ e9 G7 (j := (ac0 c0)) (v := (.ref o1)) (i := (ah0 (ac0 c0))) (ay4 _) (by rw [hN]; exact (a5 _)) (Or.inr ⟨_, rfl, Ins.self f0_3⟩) (hb hby br8) (fun T10 h10 X10 e10 W10 B10 => ?_)
  have A10 : (ac2 z_s2) Z h10 aj0 (N.set (ah0 (ac0 c0)) (.ref o1)) := B10
  have N10 := Fr.snoc X10 N4 am3
  have K10 := Keep.wr K3 W10 (Or.inl (List.mem_of_getElem? (i := 1) rfl))
  refine ae0 X10 hx (hb hby bs8) rfl rfl ?_
  have G11 := ((aw2.keep Kq3 (ninS ap0 nin0)).other W10 (Or.inl at0))
  refine au0 X10 hx hZ hown (host := "") (Or.inl (z_w hw 65 rfl)) Via.refl e10 G11 (hb hby bt8) (fun T12 X12 e12 => ?_)
  refine ae1 X12 hx (hb hby bu8) rfl ?_
  refine az0 X12 hx (hb hby bv8) (z := (1 : Int32)) rfl ?_
  have G13 := ((at2.keep Kq3 (ninS ab1 nin0)).other W10 aj1.symm)
  refine bh0 X12 hx hZ e12 G13 (j := (ac0 c0)) (v := (1 : Int32)) (i := (ah0 (ac0 c0))) (ay4 _) (by rw [hCn]; exact (a5 _)) (hb hby bw8) (fun T14 h14 X14 e14 W14 B14 => ?_)
  have A14 : ah1 Z h14 ag0 (Cn.set (ah0 (ac0 c0)) (1 : Int32)) := B14
  have N14 := Fr.snoc X14 N10 am2
  have K14 := Keep.wr K10 W14 (Or.inl (List.mem_of_getElem? (i := 2) rfl))
  refine ae0 X14 hx (hb hby bx8) rfl rfl ?_
  have G15 := (((ah4.keep Kq3 (ninS ap0 nin0)).other W10 (Or.inl at0)).other W14 (Or.inl ao0))
  refine au0 X14 hx hZ hown (host := "") (Or.inl (z_w hw 67 rfl)) Via.refl e14 G15 (hb hby by8) (fun T16 X16 e16 => ?_)
  refine ae0 X16 hx (hb hby bz8) rfl rfl ?_
  refine bi0 X16 hx (hb hby b9) rfl ?_
  have G17 := (((af3.keep Kq3 (ninS ap0 nin0)).other W10 (Or.inl at0)).other W14 (Or.inl ao0))
  refine au0 X16 hx hZ hown (host := "") (Or.inl (z_w hw 82 rfl)) Via.refl e16 G17 (hb hby ba9) (fun T18 X18 e18 => ?_)
  refine ck5 X18 hx (hb hby bb9) rfl rfl ?_
  refine az0 X18 hx (hb hby bc9) (z := (1 : Int32)) rfl ?_
  refine ad6 X18 hx (hb hby bd9) (z := (ag1 + (1 : Int32))) rfl ?_
  have G19 := (((E_o0.keep Kq3).wr W10).wr W14)
  refine am4 X18 hx hZ hown (host := "") (Or.inl (z_w hw 82 rfl)) Via.refl e18 G17 G19 (Or.inl (z_w hw 83 rfl)) (z_w hw 54 rfl) (ty := .int) (by decide) (hb hby be9) (fun T20 h20 X20 e20 W20 => ?_)
  have N20 := Fr.snoc X20 N14 ah2
  have K20 := Keep.wr K14 W20 (Or.inl (List.mem_of_getElem? (i := 0) rfl))
  have F20 := G17.same W20
  refine ae1 X20 hx (hb hby bf9) rfl ?_
  have G21 := ((((aj4.keep Kq3 (ninS as1 nin0)).other W10 aq1.symm).other W14 al1.symm).other W20 ay0.symm)
  refine bh0 X20 hx hZ e20 G21 (j := ag1) (v := (ac0 c0)) (i := (ah0 ag1)) (cw1 hz) (by rw [hU]; exact cx1 hz) (hb hby bg9) (fun T22 h22 X22 e22 W22 B22 => ?_)
  have A22 : ah1 Z h22 an0 (U.set (ah0 ag1) (ac0 c0)) := B22
  have N22 := Fr.snoc X22 N20 ax3
  have K22 := Keep.wr K20 W22 (Or.inl (List.mem_of_getElem? (i := 3) rfl))
  refine az0 X22 hx (hb hby bh9) (z := (1 : Int32)) rfl ?_
  refine as4 X22 hx (hb hby bi9) (l' := #[.val (.ref o0), .val (.ref o1), .val (.int (15 : Int32)), .val (.int (ac0 c0)), .val (.int (1 : Int32))]) rfl ?_
  refine ae0 X22 hx (hb hby bj9) rfl rfl ?_
  have G23 := (F20.other W22 (Or.inl ay0))
  refine au0 X22 hx hZ hown (host := "") (Or.inl (z_w hw 82 rfl)) Via.refl e22 G23 (hb hby bk9) (fun T24 X24 e24 => ?_)
  refine az0 X24 hx (hb hby bl9) (z := (2 : Int32)) rfl ?_
  refine cp7 X24 hx (hb hby bm9) (z := ((ag1 + (1 : Int32)) * (2 : Int32))) rfl ?_
  refine ae0 X24 hx (hb hby bn9) rfl rfl ?_
  have G25 := ((((G5.other W10 (Or.inl at0)).other W14 (Or.inl ao0)).other W20 (Or.inr (slot_ne (Or.inl (z_w hw 63 rfl)) (Or.inl (z_w hw 83 rfl)) (by decide) (t := (.array (.object z_s2))) (t' := .int) (by decide) (by decide)))).other W22 (Or.inl ay0))
  refine au0 X24 hx hZ hown (host := "") (Or.inl (z_w hw 62 rfl)) Via.refl e24 G25 (hb hby bo9) (fun T26 X26 e26 => ?_)
  have G27 := (((A10.other W14 aj1).other W20 at0.symm).other W22 aq1)
  refine ao9 X26 hx hZ e26 G27 (z := (16 : Int32)) (show Int32.ofNat (N.set (ah0 (ac0 c0)) (.ref o1)).length = (16 : Int32) from by simp only [List.length_set, hN]; rfl) (hb hby bp9) ?_
  have hd28 : ¬ ((16 : Int32) < ((ag1 + (1 : Int32)) * (2 : Int32))) := by exact cy1 hz
  refine au3 X26 hx (pc' := 165) (hb hby bq9) (flt hd28).2.2.2 ?_
  refine ae0 X26 hx (hb hby bu1) rfl rfl ?_
  refine ae0 X26 hx (hb hby bv1) rfl rfl ?_
  have G29 := (((((av2.keep Kq3 (ninS ap0 nin0)).other W10 (Or.inl at0)).other W14 (Or.inl ao0)).other W20 (Or.inr (slot_ne (Or.inl (z_w hw 85 rfl)) (Or.inl (z_w hw 83 rfl)) (by decide) (t := (.object z_s2)) (t' := .int) (by decide) (by decide)))).other W22 (Or.inl ay0))
  have G30 := ((G19.wr W20).wr W22)
  refine am4 X26 hx hZ hown (host := "") (Or.inl (z_w hw 84 rfl)) Via.refl e26 G29 G30 (Or.inl (z_w hw 85 rfl)) (z_w hw 54 rfl) (ty := (.object z_s2)) (by decide) (hb hby bw1) (fun T31 h31 X31 e31 W31 => ?_)
  have N31 := Fr.snoc X31 N22 ah2
  have K31 := Keep.wr K22 W31 (Or.inl (List.mem_of_getElem? (i := 0) rfl))
  have F31 := G29.same W31
  refine ae0 X31 hx (hb hby bx1) rfl rfl ?_
  refine ae1 X31 hx (hb hby by1) rfl ?_
  have G32 := ((((((ap2.keep Kq3 (ninS ap0 nin0)).other W10 (Or.inl at0)).other W14 (Or.inl ao0)).other W20 (Or.inr (slot_ne (Or.inl (z_w hw 118 rfl)) (Or.inl (z_w hw 83 rfl)) (by decide) (t := .int) (t' := .int) (by decide) (by decide)))).other W22 (Or.inl ay0)).other W31 (Or.inr (slot_ne (Or.inl (z_w hw 118 rfl)) (Or.inl (z_w hw 85 rfl)) (by decide) (t := .int) (t' := (.object z_s2)) (by decide) (by decide))))
  have G33 := (G30.wr W31)
  refine am4 X31 hx hZ hown (host := "") (Or.inl (z_w hw 117 rfl)) Via.refl e31 G32 G33 (Or.inl (z_w hw 118 rfl)) (z_w hw 54 rfl) (ty := .int) (by decide) (hb hby bz1) (fun T34 h34 X34 e34 W34 => ?_)
  have N34 := Fr.snoc X34 N31 ah2
  have K34 := Keep.wr K31 W34 (Or.inl (List.mem_of_getElem? (i := 0) rfl))
  have F34 := G32.same W34
  refine ay1 X34 hx (hb hby ba2) rfl ?_
  refine ao7 X34 hx hlk hP hrt (hb hby bb2) (by decide) (by decide) ?_
  have G35 := (G33.wr W34)
  have G36 := ((G25.other W31 (Or.inr (slot_ne (Or.inl (z_w hw 63 rfl)) (Or.inl (z_w hw 85 rfl)) (by decide) (t := (.array (.object z_s2))) (t' := (.object z_s2)) (by decide) (by decide)))).other W34 (Or.inr (slot_ne (Or.inl (z_w hw 63 rfl)) (Or.inl (z_w hw 118 rfl)) (by decide) (t := (.array (.object z_s2))) (t' := .int) (by decide) (by decide))))
  have G37 := (((((G11.other W14 (Or.inl ao0)).other W20 (Or.inr (slot_ne (Or.inl (z_w hw 66 rfl)) (Or.inl (z_w hw 83 rfl)) (by decide) (t := (.array .int)) (t' := .int) (by decide) (by decide)))).other W22 (Or.inl ay0)).other W31 (Or.inr (slot_ne (Or.inl (z_w hw 66 rfl)) (Or.inl (z_w hw 85 rfl)) (by decide) (t := (.array .int)) (t' := (.object z_s2)) (by decide) (by decide)))).other W34 (Or.inr (slot_ne (Or.inl (z_w hw 66 rfl)) (Or.inl (z_w hw 118 rfl)) (by decide) (t := (.array .int)) (t' := .int) (by decide) (by decide))))
  have G38 := ((((G15.other W20 (Or.inr (slot_ne (Or.inl (z_w hw 68 rfl)) (Or.inl (z_w hw 83 rfl)) (by decide) (t := (.array .int)) (t' := .int) (by decide) (by decide)))).other W22 (Or.inl ay0)).other W31 (Or.inr (slot_ne (Or.inl (z_w hw 68 rfl)) (Or.inl (z_w hw 85 rfl)) (by decide) (t := (.array .int)) (t' := (.object z_s2)) (by decide) (by decide)))).other W34 (Or.inr (slot_ne (Or.inl (z_w hw 68 rfl)) (Or.inl (z_w hw 118 rfl)) (by decide) (t := (.array .int)) (t' := .int) (by decide) (by decide))))
  have G39 := ((G23.other W31 (Or.inr (slot_ne (Or.inl (z_w hw 83 rfl)) (Or.inl (z_w hw 85 rfl)) (by decide) (t := .int) (t' := (.object z_s2)) (by decide) (by decide)))).other W34 (Or.inr (slot_ne (Or.inl (z_w hw 83 rfl)) (Or.inl (z_w hw 118 rfl)) (by decide) (t := .int) (t' := .int) (by decide) (by decide))))
  have G40 := (F31.other W34 (Or.inr (slot_ne (Or.inl (z_w hw 85 rfl)) (Or.inl (z_w hw 118 rfl)) (by decide) (t := (.object z_s2)) (t' := .int) (by decide) (by decide))))
  have G41 := ((G27.other W31 at0.symm).other W34 at0.symm)
  have G42 := ((((A14.other W20 ao0.symm).other W22 al1).other W31 ao0.symm).other W34 ao0.symm)
  have G43 := ((A22.other W31 ay0.symm).other W34 ay0.symm)
  have G44 := ((((((f0_3.wr W10).wr W14).wr W20).wr W22).wr W31).wr W34)
  have G45 := ((((((f1_3.other W10 (Or.inl ao1.symm)).other W14 (Or.inl ab1.symm)).other W20 (Or.inl ap0.symm)).other W22 (Or.inl as1.symm)).other W31 (Or.inl ap0.symm)).other W34 (Or.inl ap0.symm))
  have G46 := ((((((f2_3.other W10 (Or.inl ao1.symm)).other W14 (Or.inl ab1.symm)).other W20 (Or.inl ap0.symm)).other W22 (Or.inl as1.symm)).other W31 (Or.inl ap0.symm)).other W34 (Or.inl ap0.symm))
  have G47 := ((((((f3_3.other W10 (Or.inl ao1.symm)).other W14 (Or.inl ab1.symm)).other W20 (Or.inl ap0.symm)).other W22 (Or.inl as1.symm)).other W31 (Or.inl ap0.symm)).other W34 (Or.inl ap0.symm))
  have G48 := ((((((f4_3.other W10 (Or.inl ao1.symm)).other W14 (Or.inl ab1.symm)).other W20 (Or.inl ap0.symm)).other W22 (Or.inl as1.symm)).other W31 (Or.inl ap0.symm)).other W34 (Or.inl ap0.symm))
  have hfin : (fun (v : Option Value) (h : Heap) (L : List Loc) => v = some (.int (ax0 false k)) ∧ Fr n0 L ∧ Keep h0 h [o0, aj0, ag0, an0, o1] ∧ Exa Z h o0 z_s0 ∧ Fld Z h o0 z_s0 "names" z_s8 (.ref aj0) ∧ Fld Z h o0 z_s0 "counts" "[I" (.ref ag0) ∧ Fld Z h o0 z_s0 "used" "[I" (.ref an0) ∧ Fld Z h o0 z_s0 "size" "I" (.int (ac5 false ag1)) ∧ Fld Z h o0 z_s0 "last" z_s5 (.ref o1) ∧ Fld Z h o0 z_s0 "lastSlot" "I" (.int (ac0 c0)) ∧ (ac2 z_s2) Z h aj0 (ap4 false N (ah0 (ac0 c0)) o1) ∧ ah1 Z h ag0 (ai3 false Cn (ah0 (ac0 c0)) k) ∧ ah1 Z h an0 (ap6 false U (ah0 ag1) (ac0 c0)) ∧ Exa Z h o1 z_s2 ∧ Fld Z h o1 z_s2 "value" "[B" (.ref am0) ∧ Fld Z h o1 z_s2 "coder" "B" (.int (0 : Int32)) ∧ Fld Z h o1 z_s2 "hash" "I" (.int (ak1 c0)) ∧ Fld Z h o1 z_s2 "hashIsZero" "Z" (.int (aj6 (ak1 c0)))) (some (.int (ax0 false k))) h34 _ := ⟨rfl, N34, K34, G35, G36, G37, G38, G39, G40, F34, G41, G42, G43, G44, G45, G46, G47, G48⟩
  rw [e34]; exact hfin
theorem eb3 (m : MethodId) (o0 : Addr) (o1 : Addr) : entryFrame m #[(.ref o0), (.ref o1)] 5 = mkF m 0 #[.val (.ref o0), .val (.ref o1), .unset, .unset, .unset] [] := by first | (simp [entryFrame, mkF, argsToLocals, Value.category]; done) | rfl
set_option maxRecDepth 65536 in
set_option maxHeartbeats 40000000 in
theorem cc9 (l : Launch) (Z : State) (a0 : Array Value) (hw : ∀ d ∈ tables_1, d.before a0 Z = true) (ws : List Jvm.Cond) (o0 : Addr) (o1 : Addr) (c0 : Int32) (N : List Value) (Cn : List Int32) (U : List Int32) (k : Int32) (la : Addr) (q0 : Addr) (d0 : Int32) (aj0 : Addr) (ag0 : Addr) (an0 : Addr) (ag1 : Int32) (av1 : Int32) (am0 : Addr) (af1 : Addr) (ab0 : Int32) (h0 : Heap) (n0 : Nat) (Z0 : n0 ≤ h0.size) (E_o0 : Exa Z h0 o0 z_s0) (E_o1 : Exa Z h0 o1 z_s2) (E_q0 : Exa Z h0 q0 z_s2) (ar2 : Fld Z h0 o0 z_s0 "names" z_s8 (.ref aj0)) (aw2 : Fld Z h0 o0 z_s0 "counts" "[I" (.ref ag0)) (ah4 : Fld Z h0 o0 z_s0 "used" "[I" (.ref an0)) (af3 : Fld Z h0 o0 z_s0 "size" "I" (.int ag1)) (av2 : Fld Z h0 o0 z_s0 "last" z_s5 (.ref la)) (ap2 : Fld Z h0 o0 z_s0 "lastSlot" "I" (.int av1)) (ag3 : Fld Z h0 o1 z_s2 "value" "[B" (.ref am0)) (ah3 : Fld Z h0 o1 z_s2 "coder" "B" (.int (0 : Int32))) (an3 : Fld Z h0 o1 z_s2 "hash" "I" (.int (0 : Int32))) (aa2 : Fld Z h0 o1 z_s2 "hashIsZero" "Z" (.int (0 : Int32))) (aj5 : Fld Z h0 q0 z_s2 "value" "[B" (.ref af1)) (ak5 : Fld Z h0 q0 z_s2 "coder" "B" (.int (0 : Int32))) (ar0 : Sta Z h0 z_s2 "COMPACT_STRINGS" "Z" (.int ab0)) (an2 : (ac2 z_s2) Z h0 aj0 N) (at2 : ah1 Z h0 ag0 Cn) (aj4 : ah1 Z h0 an0 U) (aj2 : ax2 Z h0 am0 [c0]) (aq4 : ax2 Z h0 af1 [d0]) (ah2 : n0 ≤ o0) (am3 : n0 ≤ aj0) (am2 : n0 ≤ ag0) (ax3 : n0 ≤ an0) (ae6 : n0 ≤ o1) (at0 : o0 ≠ aj0) (ao0 : o0 ≠ ag0) (ay0 : o0 ≠ an0) (ap0 : o0 ≠ o1) (aj1 : aj0 ≠ ag0) (aq1 : aj0 ≠ an0) (ao1 : aj0 ≠ o1) (al1 : ag0 ≠ an0) (ab1 : ag0 ≠ o1) (as1 : an0 ≠ o1) (az2 : o0 ≠ am0) (aw9 : o0 ≠ q0) (av4 : o0 ≠ af1) (ak2 : aj0 ≠ am0) (am5 : aj0 ≠ q0) (ao3 : aj0 ≠ af1) (ag2 : ag0 ≠ am0) (ae5 : ag0 ≠ q0) (ak3 : ag0 ≠ af1) (al2 : an0 ≠ am0) (at5 : an0 ≠ q0) (ay3 : an0 ≠ af1) (ae2 : o1 ≠ am0) (ad4 : o1 ≠ q0) (ad3 : o1 ≠ af1) (bn0 : o1 ≠ la) (hnz : ¬ (ab0 = (0 : Int32))) (hN : N.length = 16) (hCn : Cn.length = 16) (hU : U.length = 16) (hz : bg0 ag1) (hp0 : N[ah0 (ac0 c0)]? = some (.ref q0)) (hq0 : ¬ d0 = c0) (hp1 : N[ah0 (aw0 (ac0 c0))]? = some .null) :
    ab3 l Z (⟨z_s0, "count", z_s9⟩ : MethodName) prog_128_method_2_code 5 (some .int) ws ({ frames := 2, cells := 0, slots := 0, locals := 28 } : Room) #[(.ref o0), (.ref o1)] h0 (fun (v : Option Value) (h : Heap) (L : List Loc) => v = some (.int (ax0 false k)) ∧ Fr n0 L ∧ Keep h0 h [o0, aj0, ag0, an0, o1] ∧ Exa Z h o0 z_s0 ∧ Fld Z h o0 z_s0 "names" z_s8 (.ref aj0) ∧ Fld Z h o0 z_s0 "counts" "[I" (.ref ag0) ∧ Fld Z h o0 z_s0 "used" "[I" (.ref an0) ∧ Fld Z h o0 z_s0 "size" "I" (.int (ac5 false ag1)) ∧ Fld Z h o0 z_s0 "last" z_s5 (.ref o1) ∧ Fld Z h o0 z_s0 "lastSlot" "I" (.int (aw0 (ac0 c0))) ∧ (ac2 z_s2) Z h aj0 (ap4 false N (ah0 (aw0 (ac0 c0))) o1) ∧ ah1 Z h ag0 (ai3 false Cn (ah0 (aw0 (ac0 c0))) k) ∧ ah1 Z h an0 (ap6 false U (ah0 ag1) (aw0 (ac0 c0))) ∧ Exa Z h o1 z_s2 ∧ Fld Z h o1 z_s2 "value" "[B" (.ref am0) ∧ Fld Z h o1 z_s2 "coder" "B" (.int (0 : Int32)) ∧ Fld Z h o1 z_s2 "hash" "I" (.int (ak1 c0)) ∧ Fld Z h o1 z_s2 "hashIsZero" "Z" (.int (aj6 (ak1 c0)))) := by
  refine al3 (plainFor_of_name aa1) ?_
  intro p e s m below meth c s₁ P hx hby hml hrt hlk hown hnm hZ X0 e0 hP
  have N0 := Fr.nil n0
  have K0 := Keep.refl h0 [o0, aj0, ag0, an0, o1]
  have hml' : c.maxLocals = 5 := hml
  refine ac4 (eb3 m o0 o1) ?_
  show aa0 p e below P (s₁.setTop (mkF m 0 #[.val (.ref o0), .val (.ref o1), .unset, .unset, .unset] []))
  refine ae0 X0 hx (hb hby bl2) rfl rfl ?_
  refine ae0 X0 hx (hb hby bm2) rfl rfl ?_
  refine au0 X0 hx hZ hown (host := "") (Or.inl (z_w hw 84 rfl)) Via.refl e0 av2 (hb hby bn2) (fun T1 X1 e1 => ?_)
  refine bi1 X1 hx rfl rfl (pc' := 23) (same := false) (hb hby bo2) (decide_eq_false fun q => bn0 (Value.ref.inj q)) ?_
  refine ae0 X1 hx (hb hby bs2) rfl rfl ?_
  refine au0 X1 hx hZ hown (host := "") (Or.inl (z_w hw 62 rfl)) Via.refl e1 ar2 (hb hby bt2) (fun T2 X2 e2 => ?_)
  refine ao9 X2 hx hZ e2 an2 (z := (16 : Int32)) (show Int32.ofNat N.length = (16 : Int32) from by simp only [List.length_set, hN]; rfl) (hb hby bu2) ?_
  refine az0 X2 hx (hb hby bv2) (z := (1 : Int32)) rfl ?_
  refine bt1 X2 hx (hb hby bw2) (z := (15 : Int32)) rfl ?_
  refine ag4 X2 hx (hb hby bx2) (l' := #[.val (.ref o0), .val (.ref o1), .val (.int (15 : Int32)), .unset, .unset]) rfl ?_
  refine ae0 X2 hx (hb hby by2) rfl rfl ?_
  refine az1 X2 hx hZ (y := (⟨z_s2, "hashCode", "()I"⟩ : MethodName)) (z := (⟨z_s2, "hashCode", "()I"⟩ : MethodName)) hown (z_w hw 97 rfl) (z_w hw 98 rfl) (notFace_of_selects (args := #[]) (mvT hZ (z_w hw 100 rfl))) (z_w hw 100 rfl) (z_w hw 99 rfl) (z_w hw 2 rfl) (z_w hw 101 rfl) E_o1 (cg0 l Z a0 hw [] o1 c0 am0 ab0 h0 n0 (Nat.le_trans Z0 K0.1) E_o1 ag3 ah3 an3 aa2 ar0 aj2 ae6 hnz) 0 e2 hml' (argsL := []) (rest := []) (lenOf au4 rfl) (hb hby bz2) (fun r3 T3 L3 X3 hQ3 => ?_)
  obtain ⟨rfl, Nq3, Kq3, f0_3, f1_3, f2_3, f3_3, f4_3⟩ := hQ3
  have N3 := Fr.app N0 Nq3
  have K3 := Keep.trans K0 Kq3 (allS (Or.inl (List.mem_of_getElem? (i := 4) rfl)) all0)
  show aa0 p e below P (T3.setTop (mkF m 35 #[.val (.ref o0), .val (.ref o1), .val (.int (15 : Int32)), .unset, .unset] [(.int (ak1 c0))]))
  refine as5 X3 hx hZ (y := (⟨z_s0, "spread", "(I)I"⟩ : MethodName)) hown (z_w hw 114 rfl) (z_w hw 115 rfl) (z_w hw 55 rfl) (z_w hw 116 rfl) (cd0 l Z a0 hw [] (ak1 c0)  T3.heap n0 (Nat.le_trans Z0 K3.1) ) 0 rfl hml' (argsL := [(.int (ak1 c0))]) (rest := []) (lenOf bm0 rfl) (hb hby ba3) (fun r4 T4 L4 X4 hQ4 => ?_)
  obtain ⟨rfl, Nq4, eq4⟩ := hQ4
  have N4 := Fr.app N3 Nq4
  show aa0 p e below P (T4.setTop (mkF m 38 #[.val (.ref o0), .val (.ref o1), .val (.int (15 : Int32)), .unset, .unset] [(.int (ap9 (ak1 c0)))]))
  refine ae1 X4 hx (hb hby bb3) rfl ?_
  refine az7 X4 hx (hb hby bc3) (z := ((ap9 (ak1 c0)) &&& (15 : Int32))) rfl ?_
  show aa0 p e below P (T4.setTop (mkF m 40 #[.val (.ref o0), .val (.ref o1), .val (.int (15 : Int32)), .unset, .unset] [(.int (ac0 c0))]))
  refine ag4 X4 hx (hb hby bd3) (l' := #[.val (.ref o0), .val (.ref o1), .val (.int (15 : Int32)), .val (.int (ac0 c0)), .unset]) rfl ?_
  refine ae0 X4 hx (hb hby a9) rfl rfl ?_
  have G5 := (ar2.keep Kq3 (ninS ap0 nin0))
  refine au0 X4 hx hZ hown (host := "") (Or.inl (z_w hw 62 rfl)) Via.refl eq4 G5 (hb hby aa9) (fun T6 X6 e6 => ?_)
  refine ae1 X6 hx (hb hby ab9) rfl ?_
  have G7 := (an2.keep Kq3 (ninS ao1 nin0))
  refine ay2 X6 hx hZ e6 G7 (j := (ac0 c0)) (v := (.ref q0)) (i := (ah0 (ac0 c0))) (ay4 _) hp0 (hb hby ac9) ?_
  refine bt0 X6 hx (hb hby ad9) ?_
  refine ae0 X6 hx (hb hby be3) rfl rfl ?_
  refine au0 X6 hx hZ hown (host := "") (Or.inl (z_w hw 62 rfl)) Via.refl e6 G5 (hb hby bf3) (fun T8 X8 e8 => ?_)
  refine ae1 X8 hx (hb hby bg3) rfl ?_
  refine ay2 X8 hx hZ e8 G7 (j := (ac0 c0)) (v := (.ref q0)) (i := (ah0 (ac0 c0))) (ay4 _) hp0 (hb hby bh3) ?_
  refine ae0 X8 hx (hb hby bi3) rfl rfl ?_
  refine bi1 X8 hx rfl rfl (pc' := 60) (same := false) (hb hby bj3) (decide_eq_false fun q => ad4.symm (Value.ref.inj q)) ?_
  refine ae0 X8 hx (hb hby bf5) rfl rfl ?_
  refine au0 X8 hx hZ hown (host := "") (Or.inl (z_w hw 62 rfl)) Via.refl e8 G5 (hb hby bg5) (fun T9 X9 e9 => ?_)
  refine ae1 X9 hx (hb hby bh5) rfl ?_
  refine ay2 X9 hx hZ e9 G7 (j := (ac0 c0)) (v := (.ref q0)) (i := (ah0 (ac0 c0))) (ay4 _) hp0 (hb hby bi5) ?_
  refine ae0 X9 hx (hb hby bj5) rfl rfl ?_
  have G11 := (E_q0.keep Kq3)
  have G12 := (aj5.keep Kq3 (ninS ad4.symm nin0))
  have G13 := (ak5.keep Kq3 (ninS ad4.symm nin0))
  have G14 := (ad2 ar0 Kq3 (allS (aw3 E_o1) all0))
  have G15 := (aq4.keep Kq3 (ninS ad3.symm nin0))
  have G16 := (aj2.keep Kq3 (ninS ae2.symm nin0))
  refine az1 X9 hx hZ (y := (⟨z_s2, "equals", "(Ljava/lang/Object;)Z"⟩ : MethodName)) (z := (⟨z_s2, "equals", "(Ljava/lang/Object;)Z"⟩ : MethodName)) hown (z_w hw 124 rfl) (z_w hw 125 rfl) (notFace_of_selects (args := #[]) (mvT hZ (z_w hw 127 rfl))) (z_w hw 127 rfl) (z_w hw 126 rfl) (z_w hw 2 rfl) (z_w hw 128 rfl) G11 (cf2 l Z a0 hw [] q0 o1 d0 c0 af1 am0 ab0 T3.heap n0 (Nat.le_trans Z0 K3.1) G11 f0_3 G12 G13 f1_3 f2_3 G14 G15 G16 ad4.symm hnz) 0 e9 hml' (argsL := [(.ref o1)]) (rest := []) (lenOf ai5 rfl) (hb hby bk5) (fun r10 T10 L10 X10 hQ10 => ?_)
  obtain ⟨rfl, Nq10, eq10⟩ := hQ10
  have N10 := Fr.app N4 Nq10
  show aa0 p e below P (T10.setTop (mkF m 70 #[.val (.ref o0), .val (.ref o1), .val (.int (15 : Int32)), .val (.int (ac0 c0)), .unset] [(.int (ah8 d0 c0 ab0))]))
  have hd17 : (ah8 d0 c0 ab0) = (0 : Int32) := by exact cm5 hq0
  refine aq7 X10 hx (hb hby bl5) ((if0 _ _).trans (teq hd17).2) ?_
  refine ae1 X10 hx (hb hby cv0) rfl ?_
  refine az0 X10 hx (hb hby cw0) (z := (1 : Int32)) rfl ?_
  refine ad6 X10 hx (hb hby cx0) (z := ((ac0 c0) + (1 : Int32))) rfl ?_
  refine ae1 X10 hx (hb hby cy0) rfl ?_
  refine az7 X10 hx (hb hby cz0) (z := (((ac0 c0) + (1 : Int32)) &&& (15 : Int32))) rfl ?_
  show aa0 p e below P (T10.setTop (mkF m 78 #[.val (.ref o0), .val (.ref o1), .val (.int (15 : Int32)), .val (.int (ac0 c0)), .unset] [(.int (aw0 (ac0 c0)))]))
  refine ag4 X10 hx (hb hby ca1) (l' := #[.val (.ref o0), .val (.ref o1), .val (.int (15 : Int32)), .val (.int (aw0 (ac0 c0))), .unset]) rfl ?_
  refine ao4 X10 hx (pc' := 41) (hb hby cb1) ?_
  refine ae0 X10 hx (hb hby a9) rfl rfl ?_
  refine au0 X10 hx hZ hown (host := "") (Or.inl (z_w hw 62 rfl)) Via.refl eq10 G5 (hb hby aa9) (fun T18 X18 e18 => ?_)
  refine ae1 X18 hx (hb hby ab9) rfl ?_
  refine ay2 X18 hx hZ e18 G7 (j := (aw0 (ac0 c0))) (v := .null) (i := (ah0 (aw0 (ac0 c0)))) (aq9 _) hp1 (hb hby ac9) ?_
  refine bq1 X18 hx (pc' := 82) (hb hby ad9) ?_
  refine ae0 X18 hx (hb hby bk3) rfl rfl ?_
  refine au0 X18 hx hZ hown (host := "") (Or.inl (z_w hw 62 rfl)) Via.refl e18 G5 (hb hby bl3) (fun T19 X19 e19 => ?_)
  refine ae1 X19 hx (hb hby bm3) rfl ?_
  refine ay2 X19 hx hZ e19 G7 (j := (aw0 (ac0 c0))) (v := .null) (i := (ah0 (aw0 (ac0 c0)))) (aq9 _) hp1 (hb hby bn3) ?_
  refine bq1 X19 hx (pc' := 107) (hb hby bo3) ?_
  refine ae0 X19 hx (hb hby bn8) rfl rfl ?_
  refine au0 X19 hx hZ hown (host := "") (Or.inl (z_w hw 62 rfl)) Via.refl e19 G5 (hb hby bo8) (fun T20 X20 e20 => ?_)
  refine ae1 X20 hx (hb hby bp8) rfl ?_
  refine ae0 X20 hx (hb hby bq8) rfl rfl ?_
  refine bf8 X20 hx hZ e20 G7 (j := (aw0 (ac0 c0))) (v := (.ref o1)) (i := (ah0 (aw0 (ac0 c0)))) (aq9 _) (by rw [hN]; exact (be5 _)) (Or.inr ⟨_, rfl, Ins.self f0_3⟩) (hb hby br8) (fun T21 h21 X21 e21 W21 B21 => ?_)
  have A21 : (ac2 z_s2) Z h21 aj0 (N.set (ah0 (aw0 (ac0 c0))) (.ref o1)) := B21
  have N21 := Fr.snoc X21 N10 am3
  have K21 := Keep.wr K3 W21 (Or.inl (List.mem_of_getElem? (i := 1) rfl))
  refine ae0 X21 hx (hb hby bs8) rfl rfl ?_
  have G22 := ((aw2.keep Kq3 (ninS ap0 nin0)).other W21 (Or.inl at0))
  refine au0 X21 hx hZ hown (host := "") (Or.inl (z_w hw 65 rfl)) Via.refl e21 G22 (hb hby bt8) (fun T23 X23 e23 => ?_)
  refine ae1 X23 hx (hb hby bu8) rfl ?_
  refine az0 X23 hx (hb hby bv8) (z := (1 : Int32)) rfl ?_
  have G24 := ((at2.keep Kq3 (ninS ab1 nin0)).other W21 aj1.symm)
  refine bh0 X23 hx hZ e23 G24 (j := (aw0 (ac0 c0))) (v := (1 : Int32)) (i := (ah0 (aw0 (ac0 c0)))) (aq9 _) (by rw [hCn]; exact (be5 _)) (hb hby bw8) (fun T25 h25 X25 e25 W25 B25 => ?_)
  have A25 : ah1 Z h25 ag0 (Cn.set (ah0 (aw0 (ac0 c0))) (1 : Int32)) := B25
  have N25 := Fr.snoc X25 N21 am2
  have K25 := Keep.wr K21 W25 (Or.inl (List.mem_of_getElem? (i := 2) rfl))
  refine ae0 X25 hx (hb hby bx8) rfl rfl ?_
  have G26 := (((ah4.keep Kq3 (ninS ap0 nin0)).other W21 (Or.inl at0)).other W25 (Or.inl ao0))
  refine au0 X25 hx hZ hown (host := "") (Or.inl (z_w hw 67 rfl)) Via.refl e25 G26 (hb hby by8) (fun T27 X27 e27 => ?_)
  refine ae0 X27 hx (hb hby bz8) rfl rfl ?_
  refine bi0 X27 hx (hb hby b9) rfl ?_
  have G28 := (((af3.keep Kq3 (ninS ap0 nin0)).other W21 (Or.inl at0)).other W25 (Or.inl ao0))
  refine au0 X27 hx hZ hown (host := "") (Or.inl (z_w hw 82 rfl)) Via.refl e27 G28 (hb hby ba9) (fun T29 X29 e29 => ?_)
  refine ck5 X29 hx (hb hby bb9) rfl rfl ?_
  refine az0 X29 hx (hb hby bc9) (z := (1 : Int32)) rfl ?_
  refine ad6 X29 hx (hb hby bd9) (z := (ag1 + (1 : Int32))) rfl ?_
  have G30 := (((E_o0.keep Kq3).wr W21).wr W25)
  refine am4 X29 hx hZ hown (host := "") (Or.inl (z_w hw 82 rfl)) Via.refl e29 G28 G30 (Or.inl (z_w hw 83 rfl)) (z_w hw 54 rfl) (ty := .int) (by decide) (hb hby be9) (fun T31 h31 X31 e31 W31 => ?_)
  have N31 := Fr.snoc X31 N25 ah2
  have K31 := Keep.wr K25 W31 (Or.inl (List.mem_of_getElem? (i := 0) rfl))
  have F31 := G28.same W31
  refine ae1 X31 hx (hb hby bf9) rfl ?_
  have G32 := ((((aj4.keep Kq3 (ninS as1 nin0)).other W21 aq1.symm).other W25 al1.symm).other W31 ay0.symm)
  refine bh0 X31 hx hZ e31 G32 (j := ag1) (v := (aw0 (ac0 c0))) (i := (ah0 ag1)) (cw1 hz) (by rw [hU]; exact cx1 hz) (hb hby bg9) (fun T33 h33 X33 e33 W33 B33 => ?_)
  have A33 : ah1 Z h33 an0 (U.set (ah0 ag1) (aw0 (ac0 c0))) := B33
  have N33 := Fr.snoc X33 N31 ax3
  have K33 := Keep.wr K31 W33 (Or.inl (List.mem_of_getElem? (i := 3) rfl))
  refine az0 X33 hx (hb hby bh9) (z := (1 : Int32)) rfl ?_
  refine as4 X33 hx (hb hby bi9) (l' := #[.val (.ref o0), .val (.ref o1), .val (.int (15 : Int32)), .val (.int (aw0 (ac0 c0))), .val (.int (1 : Int32))]) rfl ?_
  refine ae0 X33 hx (hb hby bj9) rfl rfl ?_
  have G34 := (F31.other W33 (Or.inl ay0))
  refine au0 X33 hx hZ hown (host := "") (Or.inl (z_w hw 82 rfl)) Via.refl e33 G34 (hb hby bk9) (fun T35 X35 e35 => ?_)
  refine az0 X35 hx (hb hby bl9) (z := (2 : Int32)) rfl ?_
  refine cp7 X35 hx (hb hby bm9) (z := ((ag1 + (1 : Int32)) * (2 : Int32))) rfl ?_
  refine ae0 X35 hx (hb hby bn9) rfl rfl ?_
  have G36 := ((((G5.other W21 (Or.inl at0)).other W25 (Or.inl ao0)).other W31 (Or.inr (slot_ne (Or.inl (z_w hw 63 rfl)) (Or.inl (z_w hw 83 rfl)) (by decide) (t := (.array (.object z_s2))) (t' := .int) (by decide) (by decide)))).other W33 (Or.inl ay0))
  refine au0 X35 hx hZ hown (host := "") (Or.inl (z_w hw 62 rfl)) Via.refl e35 G36 (hb hby bo9) (fun T37 X37 e37 => ?_)
  have G38 := (((A21.other W25 aj1).other W31 at0.symm).other W33 aq1)
  refine ao9 X37 hx hZ e37 G38 (z := (16 : Int32)) (show Int32.ofNat (N.set (ah0 (aw0 (ac0 c0))) (.ref o1)).length = (16 : Int32) from by simp only [List.length_set, hN]; rfl) (hb hby bp9) ?_
  have hd39 : ¬ ((16 : Int32) < ((ag1 + (1 : Int32)) * (2 : Int32))) := by exact cy1 hz
  refine au3 X37 hx (pc' := 165) (hb hby bq9) (flt hd39).2.2.2 ?_
  refine ae0 X37 hx (hb hby bu1) rfl rfl ?_
  refine ae0 X37 hx (hb hby bv1) rfl rfl ?_
  have G40 := (((((av2.keep Kq3 (ninS ap0 nin0)).other W21 (Or.inl at0)).other W25 (Or.inl ao0)).other W31 (Or.inr (slot_ne (Or.inl (z_w hw 85 rfl)) (Or.inl (z_w hw 83 rfl)) (by decide) (t := (.object z_s2)) (t' := .int) (by decide) (by decide)))).other W33 (Or.inl ay0))
  have G41 := ((G30.wr W31).wr W33)
  refine am4 X37 hx hZ hown (host := "") (Or.inl (z_w hw 84 rfl)) Via.refl e37 G40 G41 (Or.inl (z_w hw 85 rfl)) (z_w hw 54 rfl) (ty := (.object z_s2)) (by decide) (hb hby bw1) (fun T42 h42 X42 e42 W42 => ?_)
  have N42 := Fr.snoc X42 N33 ah2
  have K42 := Keep.wr K33 W42 (Or.inl (List.mem_of_getElem? (i := 0) rfl))
  have F42 := G40.same W42
  refine ae0 X42 hx (hb hby bx1) rfl rfl ?_
  refine ae1 X42 hx (hb hby by1) rfl ?_
  have G43 := ((((((ap2.keep Kq3 (ninS ap0 nin0)).other W21 (Or.inl at0)).other W25 (Or.inl ao0)).other W31 (Or.inr (slot_ne (Or.inl (z_w hw 118 rfl)) (Or.inl (z_w hw 83 rfl)) (by decide) (t := .int) (t' := .int) (by decide) (by decide)))).other W33 (Or.inl ay0)).other W42 (Or.inr (slot_ne (Or.inl (z_w hw 118 rfl)) (Or.inl (z_w hw 85 rfl)) (by decide) (t := .int) (t' := (.object z_s2)) (by decide) (by decide))))
  have G44 := (G41.wr W42)
  refine am4 X42 hx hZ hown (host := "") (Or.inl (z_w hw 117 rfl)) Via.refl e42 G43 G44 (Or.inl (z_w hw 118 rfl)) (z_w hw 54 rfl) (ty := .int) (by decide) (hb hby bz1) (fun T45 h45 X45 e45 W45 => ?_)
  have N45 := Fr.snoc X45 N42 ah2
  have K45 := Keep.wr K42 W45 (Or.inl (List.mem_of_getElem? (i := 0) rfl))
  have F45 := G43.same W45
  refine ay1 X45 hx (hb hby ba2) rfl ?_
  refine ao7 X45 hx hlk hP hrt (hb hby bb2) (by decide) (by decide) ?_
  have G46 := (G44.wr W45)
  have G47 := ((G36.other W42 (Or.inr (slot_ne (Or.inl (z_w hw 63 rfl)) (Or.inl (z_w hw 85 rfl)) (by decide) (t := (.array (.object z_s2))) (t' := (.object z_s2)) (by decide) (by decide)))).other W45 (Or.inr (slot_ne (Or.inl (z_w hw 63 rfl)) (Or.inl (z_w hw 118 rfl)) (by decide) (t := (.array (.object z_s2))) (t' := .int) (by decide) (by decide))))
  have G48 := (((((G22.other W25 (Or.inl ao0)).other W31 (Or.inr (slot_ne (Or.inl (z_w hw 66 rfl)) (Or.inl (z_w hw 83 rfl)) (by decide) (t := (.array .int)) (t' := .int) (by decide) (by decide)))).other W33 (Or.inl ay0)).other W42 (Or.inr (slot_ne (Or.inl (z_w hw 66 rfl)) (Or.inl (z_w hw 85 rfl)) (by decide) (t := (.array .int)) (t' := (.object z_s2)) (by decide) (by decide)))).other W45 (Or.inr (slot_ne (Or.inl (z_w hw 66 rfl)) (Or.inl (z_w hw 118 rfl)) (by decide) (t := (.array .int)) (t' := .int) (by decide) (by decide))))
  have G49 := ((((G26.other W31 (Or.inr (slot_ne (Or.inl (z_w hw 68 rfl)) (Or.inl (z_w hw 83 rfl)) (by decide) (t := (.array .int)) (t' := .int) (by decide) (by decide)))).other W33 (Or.inl ay0)).other W42 (Or.inr (slot_ne (Or.inl (z_w hw 68 rfl)) (Or.inl (z_w hw 85 rfl)) (by decide) (t := (.array .int)) (t' := (.object z_s2)) (by decide) (by decide)))).other W45 (Or.inr (slot_ne (Or.inl (z_w hw 68 rfl)) (Or.inl (z_w hw 118 rfl)) (by decide) (t := (.array .int)) (t' := .int) (by decide) (by decide))))
  have G50 := ((G34.other W42 (Or.inr (slot_ne (Or.inl (z_w hw 83 rfl)) (Or.inl (z_w hw 85 rfl)) (by decide) (t := .int) (t' := (.object z_s2)) (by decide) (by decide)))).other W45 (Or.inr (slot_ne (Or.inl (z_w hw 83 rfl)) (Or.inl (z_w hw 118 rfl)) (by decide) (t := .int) (t' := .int) (by decide) (by decide))))
  have G51 := (F42.other W45 (Or.inr (slot_ne (Or.inl (z_w hw 85 rfl)) (Or.inl (z_w hw 118 rfl)) (by decide) (t := (.object z_s2)) (t' := .int) (by decide) (by decide))))
  have G52 := ((G38.other W42 at0.symm).other W45 at0.symm)
  have G53 := ((((A25.other W31 ao0.symm).other W33 al1).other W42 ao0.symm).other W45 ao0.symm)
  have G54 := ((A33.other W42 ay0.symm).other W45 ay0.symm)
  have G55 := ((((((f0_3.wr W21).wr W25).wr W31).wr W33).wr W42).wr W45)
  have G56 := ((((((f1_3.other W21 (Or.inl ao1.symm)).other W25 (Or.inl ab1.symm)).other W31 (Or.inl ap0.symm)).other W33 (Or.inl as1.symm)).other W42 (Or.inl ap0.symm)).other W45 (Or.inl ap0.symm))
  have G57 := ((((((f2_3.other W21 (Or.inl ao1.symm)).other W25 (Or.inl ab1.symm)).other W31 (Or.inl ap0.symm)).other W33 (Or.inl as1.symm)).other W42 (Or.inl ap0.symm)).other W45 (Or.inl ap0.symm))
  have G58 := ((((((f3_3.other W21 (Or.inl ao1.symm)).other W25 (Or.inl ab1.symm)).other W31 (Or.inl ap0.symm)).other W33 (Or.inl as1.symm)).other W42 (Or.inl ap0.symm)).other W45 (Or.inl ap0.symm))
  have G59 := ((((((f4_3.other W21 (Or.inl ao1.symm)).other W25 (Or.inl ab1.symm)).other W31 (Or.inl ap0.symm)).other W33 (Or.inl as1.symm)).other W42 (Or.inl ap0.symm)).other W45 (Or.inl ap0.symm))
  have hfin : (fun (v : Option Value) (h : Heap) (L : List Loc) => v = some (.int (ax0 false k)) ∧ Fr n0 L ∧ Keep h0 h [o0, aj0, ag0, an0, o1] ∧ Exa Z h o0 z_s0 ∧ Fld Z h o0 z_s0 "names" z_s8 (.ref aj0) ∧ Fld Z h o0 z_s0 "counts" "[I" (.ref ag0) ∧ Fld Z h o0 z_s0 "used" "[I" (.ref an0) ∧ Fld Z h o0 z_s0 "size" "I" (.int (ac5 false ag1)) ∧ Fld Z h o0 z_s0 "last" z_s5 (.ref o1) ∧ Fld Z h o0 z_s0 "lastSlot" "I" (.int (aw0 (ac0 c0))) ∧ (ac2 z_s2) Z h aj0 (ap4 false N (ah0 (aw0 (ac0 c0))) o1) ∧ ah1 Z h ag0 (ai3 false Cn (ah0 (aw0 (ac0 c0))) k) ∧ ah1 Z h an0 (ap6 false U (ah0 ag1) (aw0 (ac0 c0))) ∧ Exa Z h o1 z_s2 ∧ Fld Z h o1 z_s2 "value" "[B" (.ref am0) ∧ Fld Z h o1 z_s2 "coder" "B" (.int (0 : Int32)) ∧ Fld Z h o1 z_s2 "hash" "I" (.int (ak1 c0)) ∧ Fld Z h o1 z_s2 "hashIsZero" "Z" (.int (aj6 (ak1 c0)))) (some (.int (ax0 false k))) h45 _ := ⟨rfl, N45, K45, G46, G47, G48, G49, G50, G51, F45, G52, G53, G54, G55, G56, G57, G58, G59⟩
  rw [e45]; exact hfin
theorem cd3 : decode prog_128_method_2_code 91 = .ok (.aload_n 0, 1) := by decide +kernel
theorem ce3 : decode prog_128_method_2_code 92 = .ok (.getfield 15, 3) := by decide +kernel
theorem cf3 : decode prog_128_method_2_code 95 = .ok (.iload_n 3, 1) := by decide +kernel
theorem cg3 : decode prog_128_method_2_code 96 = .ok (.dup2, 1) := by decide +kernel
theorem ch3 : decode prog_128_method_2_code 97 = .ok (.iaload, 1) := by decide +kernel
theorem ci3 : decode prog_128_method_2_code 98 = .ok (.iconst 1, 1) := by decide +kernel
theorem cj3 : decode prog_128_method_2_code 99 = .ok (.iadd, 1) := by decide +kernel
theorem cl2 : decode prog_128_method_2_code 100 = .ok (.dup_x2, 1) := by decide +kernel
theorem cm2 : decode prog_128_method_2_code 101 = .ok (.iastore, 1) := by decide +kernel
theorem cn2 : decode prog_128_method_2_code 102 = .ok (.istore 4, 2) := by decide +kernel
theorem co2 : decode prog_128_method_2_code 104 = .ok (.goto 61, 3) := by decide +kernel
theorem ec3 (m : MethodId) (o0 : Addr) (o1 : Addr) : entryFrame m #[(.ref o0), (.ref o1)] 5 = mkF m 0 #[.val (.ref o0), .val (.ref o1), .unset, .unset, .unset] [] := by first | (simp [entryFrame, mkF, argsToLocals, Value.category]; done) | rfl
set_option maxRecDepth 65536 in
set_option maxHeartbeats 40000000 in
theorem cd9 (l : Launch) (Z : State) (a0 : Array Value) (hw : ∀ d ∈ tables_1, d.before a0 Z = true) (ws : List Jvm.Cond) (o0 : Addr) (o1 : Addr) (c0 : Int32) (N : List Value) (Cn : List Int32) (U : List Int32) (k : Int32) (la : Addr) (q0 : Addr) (d0 : Int32) (aj0 : Addr) (ag0 : Addr) (an0 : Addr) (ag1 : Int32) (av1 : Int32) (am0 : Addr) (af1 : Addr) (ab0 : Int32) (h0 : Heap) (n0 : Nat) (Z0 : n0 ≤ h0.size) (E_o0 : Exa Z h0 o0 z_s0) (E_o1 : Exa Z h0 o1 z_s2) (E_q0 : Exa Z h0 q0 z_s2) (ar2 : Fld Z h0 o0 z_s0 "names" z_s8 (.ref aj0)) (aw2 : Fld Z h0 o0 z_s0 "counts" "[I" (.ref ag0)) (ah4 : Fld Z h0 o0 z_s0 "used" "[I" (.ref an0)) (af3 : Fld Z h0 o0 z_s0 "size" "I" (.int ag1)) (av2 : Fld Z h0 o0 z_s0 "last" z_s5 (.ref la)) (ap2 : Fld Z h0 o0 z_s0 "lastSlot" "I" (.int av1)) (ag3 : Fld Z h0 o1 z_s2 "value" "[B" (.ref am0)) (ah3 : Fld Z h0 o1 z_s2 "coder" "B" (.int (0 : Int32))) (an3 : Fld Z h0 o1 z_s2 "hash" "I" (.int (0 : Int32))) (aa2 : Fld Z h0 o1 z_s2 "hashIsZero" "Z" (.int (0 : Int32))) (aj5 : Fld Z h0 q0 z_s2 "value" "[B" (.ref af1)) (ak5 : Fld Z h0 q0 z_s2 "coder" "B" (.int (0 : Int32))) (ar0 : Sta Z h0 z_s2 "COMPACT_STRINGS" "Z" (.int ab0)) (an2 : (ac2 z_s2) Z h0 aj0 N) (at2 : ah1 Z h0 ag0 Cn) (aj4 : ah1 Z h0 an0 U) (aj2 : ax2 Z h0 am0 [c0]) (aq4 : ax2 Z h0 af1 [d0]) (ah2 : n0 ≤ o0) (am3 : n0 ≤ aj0) (am2 : n0 ≤ ag0) (ax3 : n0 ≤ an0) (ae6 : n0 ≤ o1) (at0 : o0 ≠ aj0) (ao0 : o0 ≠ ag0) (ay0 : o0 ≠ an0) (ap0 : o0 ≠ o1) (aj1 : aj0 ≠ ag0) (aq1 : aj0 ≠ an0) (ao1 : aj0 ≠ o1) (al1 : ag0 ≠ an0) (ab1 : ag0 ≠ o1) (as1 : an0 ≠ o1) (az2 : o0 ≠ am0) (aw9 : o0 ≠ q0) (av4 : o0 ≠ af1) (ak2 : aj0 ≠ am0) (am5 : aj0 ≠ q0) (ao3 : aj0 ≠ af1) (ag2 : ag0 ≠ am0) (ae5 : ag0 ≠ q0) (ak3 : ag0 ≠ af1) (al2 : an0 ≠ am0) (at5 : an0 ≠ q0) (ay3 : an0 ≠ af1) (ae2 : o1 ≠ am0) (ad4 : o1 ≠ q0) (ad3 : o1 ≠ af1) (bn0 : o1 ≠ la) (hnz : ¬ (ab0 = (0 : Int32))) (hN : N.length = 16) (hCn : Cn.length = 16) (hU : U.length = 16) (hz : bg0 ag1) (hp0 : N[ah0 (ac0 c0)]? = some (.ref q0)) (hq0 : d0 = c0) (hk : Cn[ah0 (ac0 c0)]? = some k) :
    ab3 l Z (⟨z_s0, "count", z_s9⟩ : MethodName) prog_128_method_2_code 5 (some .int) ws ({ frames := 2, cells := 0, slots := 0, locals := 28 } : Room) #[(.ref o0), (.ref o1)] h0 (fun (v : Option Value) (h : Heap) (L : List Loc) => v = some (.int (ax0 true k)) ∧ Fr n0 L ∧ Keep h0 h [o0, aj0, ag0, an0, o1] ∧ Exa Z h o0 z_s0 ∧ Fld Z h o0 z_s0 "names" z_s8 (.ref aj0) ∧ Fld Z h o0 z_s0 "counts" "[I" (.ref ag0) ∧ Fld Z h o0 z_s0 "used" "[I" (.ref an0) ∧ Fld Z h o0 z_s0 "size" "I" (.int (ac5 true ag1)) ∧ Fld Z h o0 z_s0 "last" z_s5 (.ref o1) ∧ Fld Z h o0 z_s0 "lastSlot" "I" (.int (ac0 c0)) ∧ (ac2 z_s2) Z h aj0 (ap4 true N (ah0 (ac0 c0)) o1) ∧ ah1 Z h ag0 (ai3 true Cn (ah0 (ac0 c0)) k) ∧ ah1 Z h an0 (ap6 true U (ah0 ag1) (ac0 c0)) ∧ Exa Z h o1 z_s2 ∧ Fld Z h o1 z_s2 "value" "[B" (.ref am0) ∧ Fld Z h o1 z_s2 "coder" "B" (.int (0 : Int32)) ∧ Fld Z h o1 z_s2 "hash" "I" (.int (ak1 c0)) ∧ Fld Z h o1 z_s2 "hashIsZero" "Z" (.int (aj6 (ak1 c0)))) := by
  refine al3 (plainFor_of_name aa1) ?_
  intro p e s m below meth c s₁ P hx hby hml hrt hlk hown hnm hZ X0 e0 hP
  have N0 := Fr.nil n0
  have K0 := Keep.refl h0 [o0, aj0, ag0, an0, o1]
  have hml' : c.maxLocals = 5 := hml
  refine ac4 (ec3 m o0 o1) ?_
  show aa0 p e below P (s₁.setTop (mkF m 0 #[.val (.ref o0), .val (.ref o1), .unset, .unset, .unset] []))
  refine ae0 X0 hx (hb hby bl2) rfl rfl ?_
  refine ae0 X0 hx (hb hby bm2) rfl rfl ?_
  refine au0 X0 hx hZ hown (host := "") (Or.inl (z_w hw 84 rfl)) Via.refl e0 av2 (hb hby bn2) (fun T1 X1 e1 => ?_)
  refine bi1 X1 hx rfl rfl (pc' := 23) (same := false) (hb hby bo2) (decide_eq_false fun q => bn0 (Value.ref.inj q)) ?_
  refine ae0 X1 hx (hb hby bs2) rfl rfl ?_
  refine au0 X1 hx hZ hown (host := "") (Or.inl (z_w hw 62 rfl)) Via.refl e1 ar2 (hb hby bt2) (fun T2 X2 e2 => ?_)
  refine ao9 X2 hx hZ e2 an2 (z := (16 : Int32)) (show Int32.ofNat N.length = (16 : Int32) from by simp only [List.length_set, hN]; rfl) (hb hby bu2) ?_
  refine az0 X2 hx (hb hby bv2) (z := (1 : Int32)) rfl ?_
  refine bt1 X2 hx (hb hby bw2) (z := (15 : Int32)) rfl ?_
  refine ag4 X2 hx (hb hby bx2) (l' := #[.val (.ref o0), .val (.ref o1), .val (.int (15 : Int32)), .unset, .unset]) rfl ?_
  refine ae0 X2 hx (hb hby by2) rfl rfl ?_
  refine az1 X2 hx hZ (y := (⟨z_s2, "hashCode", "()I"⟩ : MethodName)) (z := (⟨z_s2, "hashCode", "()I"⟩ : MethodName)) hown (z_w hw 97 rfl) (z_w hw 98 rfl) (notFace_of_selects (args := #[]) (mvT hZ (z_w hw 100 rfl))) (z_w hw 100 rfl) (z_w hw 99 rfl) (z_w hw 2 rfl) (z_w hw 101 rfl) E_o1 (cg0 l Z a0 hw [] o1 c0 am0 ab0 h0 n0 (Nat.le_trans Z0 K0.1) E_o1 ag3 ah3 an3 aa2 ar0 aj2 ae6 hnz) 0 e2 hml' (argsL := []) (rest := []) (lenOf au4 rfl) (hb hby bz2) (fun r3 T3 L3 X3 hQ3 => ?_)
  obtain ⟨rfl, Nq3, Kq3, f0_3, f1_3, f2_3, f3_3, f4_3⟩ := hQ3
  have N3 := Fr.app N0 Nq3
  have K3 := Keep.trans K0 Kq3 (allS (Or.inl (List.mem_of_getElem? (i := 4) rfl)) all0)
  show aa0 p e below P (T3.setTop (mkF m 35 #[.val (.ref o0), .val (.ref o1), .val (.int (15 : Int32)), .unset, .unset] [(.int (ak1 c0))]))
  refine as5 X3 hx hZ (y := (⟨z_s0, "spread", "(I)I"⟩ : MethodName)) hown (z_w hw 114 rfl) (z_w hw 115 rfl) (z_w hw 55 rfl) (z_w hw 116 rfl) (cd0 l Z a0 hw [] (ak1 c0)  T3.heap n0 (Nat.le_trans Z0 K3.1) ) 0 rfl hml' (argsL := [(.int (ak1 c0))]) (rest := []) (lenOf bm0 rfl) (hb hby ba3) (fun r4 T4 L4 X4 hQ4 => ?_)
  obtain ⟨rfl, Nq4, eq4⟩ := hQ4
  have N4 := Fr.app N3 Nq4
  show aa0 p e below P (T4.setTop (mkF m 38 #[.val (.ref o0), .val (.ref o1), .val (.int (15 : Int32)), .unset, .unset] [(.int (ap9 (ak1 c0)))]))
  refine ae1 X4 hx (hb hby bb3) rfl ?_
  refine az7 X4 hx (hb hby bc3) (z := ((ap9 (ak1 c0)) &&& (15 : Int32))) rfl ?_
  show aa0 p e below P (T4.setTop (mkF m 40 #[.val (.ref o0), .val (.ref o1), .val (.int (15 : Int32)), .unset, .unset] [(.int (ac0 c0))]))
  refine ag4 X4 hx (hb hby bd3) (l' := #[.val (.ref o0), .val (.ref o1), .val (.int (15 : Int32)), .val (.int (ac0 c0)), .unset]) rfl ?_
  refine ae0 X4 hx (hb hby a9) rfl rfl ?_
  have G5 := (ar2.keep Kq3 (ninS ap0 nin0))
  refine au0 X4 hx hZ hown (host := "") (Or.inl (z_w hw 62 rfl)) Via.refl eq4 G5 (hb hby aa9) (fun T6 X6 e6 => ?_)
  refine ae1 X6 hx (hb hby ab9) rfl ?_
  have G7 := (an2.keep Kq3 (ninS ao1 nin0))
  refine ay2 X6 hx hZ e6 G7 (j := (ac0 c0)) (v := (.ref q0)) (i := (ah0 (ac0 c0))) (ay4 _) hp0 (hb hby ac9) ?_
  refine bt0 X6 hx (hb hby ad9) ?_
  refine ae0 X6 hx (hb hby be3) rfl rfl ?_
  refine au0 X6 hx hZ hown (host := "") (Or.inl (z_w hw 62 rfl)) Via.refl e6 G5 (hb hby bf3) (fun T8 X8 e8 => ?_)
  refine ae1 X8 hx (hb hby bg3) rfl ?_
  refine ay2 X8 hx hZ e8 G7 (j := (ac0 c0)) (v := (.ref q0)) (i := (ah0 (ac0 c0))) (ay4 _) hp0 (hb hby bh3) ?_
  refine ae0 X8 hx (hb hby bi3) rfl rfl ?_
  refine bi1 X8 hx rfl rfl (pc' := 60) (same := false) (hb hby bj3) (decide_eq_false fun q => ad4.symm (Value.ref.inj q)) ?_
  refine ae0 X8 hx (hb hby bf5) rfl rfl ?_
  refine au0 X8 hx hZ hown (host := "") (Or.inl (z_w hw 62 rfl)) Via.refl e8 G5 (hb hby bg5) (fun T9 X9 e9 => ?_)
  refine ae1 X9 hx (hb hby bh5) rfl ?_
  refine ay2 X9 hx hZ e9 G7 (j := (ac0 c0)) (v := (.ref q0)) (i := (ah0 (ac0 c0))) (ay4 _) hp0 (hb hby bi5) ?_
  refine ae0 X9 hx (hb hby bj5) rfl rfl ?_
  have G11 := (E_q0.keep Kq3)
  have G12 := (aj5.keep Kq3 (ninS ad4.symm nin0))
  have G13 := (ak5.keep Kq3 (ninS ad4.symm nin0))
  have G14 := (ad2 ar0 Kq3 (allS (aw3 E_o1) all0))
  have G15 := (aq4.keep Kq3 (ninS ad3.symm nin0))
  have G16 := (aj2.keep Kq3 (ninS ae2.symm nin0))
  refine az1 X9 hx hZ (y := (⟨z_s2, "equals", "(Ljava/lang/Object;)Z"⟩ : MethodName)) (z := (⟨z_s2, "equals", "(Ljava/lang/Object;)Z"⟩ : MethodName)) hown (z_w hw 124 rfl) (z_w hw 125 rfl) (notFace_of_selects (args := #[]) (mvT hZ (z_w hw 127 rfl))) (z_w hw 127 rfl) (z_w hw 126 rfl) (z_w hw 2 rfl) (z_w hw 128 rfl) G11 (cf2 l Z a0 hw [] q0 o1 d0 c0 af1 am0 ab0 T3.heap n0 (Nat.le_trans Z0 K3.1) G11 f0_3 G12 G13 f1_3 f2_3 G14 G15 G16 ad4.symm hnz) 0 e9 hml' (argsL := [(.ref o1)]) (rest := []) (lenOf ai5 rfl) (hb hby bk5) (fun r10 T10 L10 X10 hQ10 => ?_)
  obtain ⟨rfl, Nq10, eq10⟩ := hQ10
  have N10 := Fr.app N4 Nq10
  show aa0 p e below P (T10.setTop (mkF m 70 #[.val (.ref o0), .val (.ref o1), .val (.int (15 : Int32)), .val (.int (ac0 c0)), .unset] [(.int (ah8 d0 c0 ab0))]))
  have hd17 : ¬ ((ah8 d0 c0 ab0) = (0 : Int32)) := by exact dw4 hq0
  refine al7 X10 hx (pc' := 82) (hb hby bl5) ((if0 _ _).trans (feq hd17).2) ?_
  refine ae0 X10 hx (hb hby bk3) rfl rfl ?_
  refine au0 X10 hx hZ hown (host := "") (Or.inl (z_w hw 62 rfl)) Via.refl eq10 G5 (hb hby bl3) (fun T18 X18 e18 => ?_)
  refine ae1 X18 hx (hb hby bm3) rfl ?_
  refine ay2 X18 hx hZ e18 G7 (j := (ac0 c0)) (v := (.ref q0)) (i := (ah0 (ac0 c0))) (ay4 _) hp0 (hb hby bn3) ?_
  refine bt0 X18 hx (hb hby bo3) ?_
  refine ae0 X18 hx (hb hby cd3) rfl rfl ?_
  have G19 := (aw2.keep Kq3 (ninS ap0 nin0))
  refine au0 X18 hx hZ hown (host := "") (Or.inl (z_w hw 65 rfl)) Via.refl e18 G19 (hb hby ce3) (fun T20 X20 e20 => ?_)
  refine ae1 X20 hx (hb hby cf3) rfl ?_
  refine cq7 X20 hx (hb hby cg3) rfl rfl ?_
  have G21 := (at2.keep Kq3 (ninS ab1 nin0))
  refine cb4 X20 hx hZ e20 G21 (j := (ac0 c0)) (v := k) (i := (ah0 (ac0 c0))) (ay4 _) hk (hb hby ch3) ?_
  refine az0 X20 hx (hb hby ci3) (z := (1 : Int32)) rfl ?_
  refine ad6 X20 hx (hb hby cj3) (z := (k + (1 : Int32))) rfl ?_
  refine cz2 X20 hx (hb hby cl2) ?_
  show aa0 p e below P (T20.setTop (mkF m 101 #[.val (.ref o0), .val (.ref o1), .val (.int (15 : Int32)), .val (.int (ac0 c0)), .unset] [(.int (k + (1 : Int32))), (.int (ac0 c0)), (.ref ag0), (.int (k + (1 : Int32)))]))
  refine bh0 X20 hx hZ e20 G21 (j := (ac0 c0)) (v := (k + (1 : Int32))) (i := (ah0 (ac0 c0))) (ay4 _) (List.getElem?_eq_some_iff.mp hk).1 (hb hby cm2) (fun T22 h22 X22 e22 W22 B22 => ?_)
  have A22 : ah1 Z h22 ag0 (Cn.set (ah0 (ac0 c0)) (k + (1 : Int32))) := B22
  have N22 := Fr.snoc X22 N10 am2
  have K22 := Keep.wr K3 W22 (Or.inl (List.mem_of_getElem? (i := 2) rfl))
  refine as4 X22 hx (hb hby cn2) (l' := #[.val (.ref o0), .val (.ref o1), .val (.int (15 : Int32)), .val (.int (ac0 c0)), .val (.int (k + (1 : Int32)))]) rfl ?_
  refine ao4 X22 hx (pc' := 165) (hb hby co2) ?_
  refine ae0 X22 hx (hb hby bu1) rfl rfl ?_
  refine ae0 X22 hx (hb hby bv1) rfl rfl ?_
  have G23 := ((av2.keep Kq3 (ninS ap0 nin0)).other W22 (Or.inl ao0))
  have G24 := ((E_o0.keep Kq3).wr W22)
  refine am4 X22 hx hZ hown (host := "") (Or.inl (z_w hw 84 rfl)) Via.refl e22 G23 G24 (Or.inl (z_w hw 85 rfl)) (z_w hw 54 rfl) (ty := (.object z_s2)) (by decide) (hb hby bw1) (fun T25 h25 X25 e25 W25 => ?_)
  have N25 := Fr.snoc X25 N22 ah2
  have K25 := Keep.wr K22 W25 (Or.inl (List.mem_of_getElem? (i := 0) rfl))
  have F25 := G23.same W25
  refine ae0 X25 hx (hb hby bx1) rfl rfl ?_
  refine ae1 X25 hx (hb hby by1) rfl ?_
  have G26 := (((ap2.keep Kq3 (ninS ap0 nin0)).other W22 (Or.inl ao0)).other W25 (Or.inr (slot_ne (Or.inl (z_w hw 118 rfl)) (Or.inl (z_w hw 85 rfl)) (by decide) (t := .int) (t' := (.object z_s2)) (by decide) (by decide))))
  have G27 := (G24.wr W25)
  refine am4 X25 hx hZ hown (host := "") (Or.inl (z_w hw 117 rfl)) Via.refl e25 G26 G27 (Or.inl (z_w hw 118 rfl)) (z_w hw 54 rfl) (ty := .int) (by decide) (hb hby bz1) (fun T28 h28 X28 e28 W28 => ?_)
  have N28 := Fr.snoc X28 N25 ah2
  have K28 := Keep.wr K25 W28 (Or.inl (List.mem_of_getElem? (i := 0) rfl))
  have F28 := G26.same W28
  refine ay1 X28 hx (hb hby ba2) rfl ?_
  refine ao7 X28 hx hlk hP hrt (hb hby bb2) (by decide) (by decide) ?_
  have G29 := (G27.wr W28)
  have G30 := (((G5.other W22 (Or.inl ao0)).other W25 (Or.inr (slot_ne (Or.inl (z_w hw 63 rfl)) (Or.inl (z_w hw 85 rfl)) (by decide) (t := (.array (.object z_s2))) (t' := (.object z_s2)) (by decide) (by decide)))).other W28 (Or.inr (slot_ne (Or.inl (z_w hw 63 rfl)) (Or.inl (z_w hw 118 rfl)) (by decide) (t := (.array (.object z_s2))) (t' := .int) (by decide) (by decide))))
  have G31 := (((G19.other W22 (Or.inl ao0)).other W25 (Or.inr (slot_ne (Or.inl (z_w hw 66 rfl)) (Or.inl (z_w hw 85 rfl)) (by decide) (t := (.array .int)) (t' := (.object z_s2)) (by decide) (by decide)))).other W28 (Or.inr (slot_ne (Or.inl (z_w hw 66 rfl)) (Or.inl (z_w hw 118 rfl)) (by decide) (t := (.array .int)) (t' := .int) (by decide) (by decide))))
  have G32 := ((((ah4.keep Kq3 (ninS ap0 nin0)).other W22 (Or.inl ao0)).other W25 (Or.inr (slot_ne (Or.inl (z_w hw 68 rfl)) (Or.inl (z_w hw 85 rfl)) (by decide) (t := (.array .int)) (t' := (.object z_s2)) (by decide) (by decide)))).other W28 (Or.inr (slot_ne (Or.inl (z_w hw 68 rfl)) (Or.inl (z_w hw 118 rfl)) (by decide) (t := (.array .int)) (t' := .int) (by decide) (by decide))))
  have G33 := ((((af3.keep Kq3 (ninS ap0 nin0)).other W22 (Or.inl ao0)).other W25 (Or.inr (slot_ne (Or.inl (z_w hw 83 rfl)) (Or.inl (z_w hw 85 rfl)) (by decide) (t := .int) (t' := (.object z_s2)) (by decide) (by decide)))).other W28 (Or.inr (slot_ne (Or.inl (z_w hw 83 rfl)) (Or.inl (z_w hw 118 rfl)) (by decide) (t := .int) (t' := .int) (by decide) (by decide))))
  have G34 := (F25.other W28 (Or.inr (slot_ne (Or.inl (z_w hw 85 rfl)) (Or.inl (z_w hw 118 rfl)) (by decide) (t := (.object z_s2)) (t' := .int) (by decide) (by decide))))
  have G35 := (((G7.other W22 aj1).other W25 at0.symm).other W28 at0.symm)
  have G36 := ((A22.other W25 ao0.symm).other W28 ao0.symm)
  have G37 := ((((aj4.keep Kq3 (ninS as1 nin0)).other W22 al1.symm).other W25 ay0.symm).other W28 ay0.symm)
  have G38 := (((f0_3.wr W22).wr W25).wr W28)
  have G39 := (((f1_3.other W22 (Or.inl ab1.symm)).other W25 (Or.inl ap0.symm)).other W28 (Or.inl ap0.symm))
  have G40 := (((f2_3.other W22 (Or.inl ab1.symm)).other W25 (Or.inl ap0.symm)).other W28 (Or.inl ap0.symm))
  have G41 := (((f3_3.other W22 (Or.inl ab1.symm)).other W25 (Or.inl ap0.symm)).other W28 (Or.inl ap0.symm))
  have G42 := (((f4_3.other W22 (Or.inl ab1.symm)).other W25 (Or.inl ap0.symm)).other W28 (Or.inl ap0.symm))
  have hfin : (fun (v : Option Value) (h : Heap) (L : List Loc) => v = some (.int (ax0 true k)) ∧ Fr n0 L ∧ Keep h0 h [o0, aj0, ag0, an0, o1] ∧ Exa Z h o0 z_s0 ∧ Fld Z h o0 z_s0 "names" z_s8 (.ref aj0) ∧ Fld Z h o0 z_s0 "counts" "[I" (.ref ag0) ∧ Fld Z h o0 z_s0 "used" "[I" (.ref an0) ∧ Fld Z h o0 z_s0 "size" "I" (.int (ac5 true ag1)) ∧ Fld Z h o0 z_s0 "last" z_s5 (.ref o1) ∧ Fld Z h o0 z_s0 "lastSlot" "I" (.int (ac0 c0)) ∧ (ac2 z_s2) Z h aj0 (ap4 true N (ah0 (ac0 c0)) o1) ∧ ah1 Z h ag0 (ai3 true Cn (ah0 (ac0 c0)) k) ∧ ah1 Z h an0 (ap6 true U (ah0 ag1) (ac0 c0)) ∧ Exa Z h o1 z_s2 ∧ Fld Z h o1 z_s2 "value" "[B" (.ref am0) ∧ Fld Z h o1 z_s2 "coder" "B" (.int (0 : Int32)) ∧ Fld Z h o1 z_s2 "hash" "I" (.int (ak1 c0)) ∧ Fld Z h o1 z_s2 "hashIsZero" "Z" (.int (aj6 (ak1 c0)))) (some (.int (ax0 true k))) h28 _ := ⟨rfl, N28, K28, G29, G30, G31, G32, G33, G34, F28, G35, G36, G37, G38, G39, G40, G41, G42⟩
  rw [e28]; exact hfin
theorem ed3 (m : MethodId) (o0 : Addr) (o1 : Addr) : entryFrame m #[(.ref o0), (.ref o1)] 5 = mkF m 0 #[.val (.ref o0), .val (.ref o1), .unset, .unset, .unset] [] := by first | (simp [entryFrame, mkF, argsToLocals, Value.category]; done) | rfl
set_option maxRecDepth 65536 in
set_option maxHeartbeats 40000000 in
theorem er4 (l : Launch) (Z : State) (a0 : Array Value) (hw : ∀ d ∈ tables_1, d.before a0 Z = true) (ws : List Jvm.Cond) (o0 : Addr) (o1 : Addr) (c0 : Int32) (N : List Value) (Cn : List Int32) (U : List Int32) (k : Int32) (la : Addr) (q0 : Addr) (d0 : Int32) (q1 : Addr) (d1 : Int32) (aj0 : Addr) (ag0 : Addr) (an0 : Addr) (ag1 : Int32) (av1 : Int32) (am0 : Addr) (af1 : Addr) (ao2 : Addr) (ab0 : Int32) (h0 : Heap) (n0 : Nat) (Z0 : n0 ≤ h0.size) (E_o0 : Exa Z h0 o0 z_s0) (E_o1 : Exa Z h0 o1 z_s2) (E_q0 : Exa Z h0 q0 z_s2) (E_q1 : Exa Z h0 q1 z_s2) (ar2 : Fld Z h0 o0 z_s0 "names" z_s8 (.ref aj0)) (aw2 : Fld Z h0 o0 z_s0 "counts" "[I" (.ref ag0)) (ah4 : Fld Z h0 o0 z_s0 "used" "[I" (.ref an0)) (af3 : Fld Z h0 o0 z_s0 "size" "I" (.int ag1)) (av2 : Fld Z h0 o0 z_s0 "last" z_s5 (.ref la)) (ap2 : Fld Z h0 o0 z_s0 "lastSlot" "I" (.int av1)) (ag3 : Fld Z h0 o1 z_s2 "value" "[B" (.ref am0)) (ah3 : Fld Z h0 o1 z_s2 "coder" "B" (.int (0 : Int32))) (an3 : Fld Z h0 o1 z_s2 "hash" "I" (.int (0 : Int32))) (aa2 : Fld Z h0 o1 z_s2 "hashIsZero" "Z" (.int (0 : Int32))) (aj5 : Fld Z h0 q0 z_s2 "value" "[B" (.ref af1)) (ak5 : Fld Z h0 q0 z_s2 "coder" "B" (.int (0 : Int32))) (au9 : Fld Z h0 q1 z_s2 "value" "[B" (.ref ao2)) (av9 : Fld Z h0 q1 z_s2 "coder" "B" (.int (0 : Int32))) (ar0 : Sta Z h0 z_s2 "COMPACT_STRINGS" "Z" (.int ab0)) (an2 : (ac2 z_s2) Z h0 aj0 N) (at2 : ah1 Z h0 ag0 Cn) (aj4 : ah1 Z h0 an0 U) (aj2 : ax2 Z h0 am0 [c0]) (aq4 : ax2 Z h0 af1 [d0]) (a8 : ax2 Z h0 ao2 [d1]) (ah2 : n0 ≤ o0) (am3 : n0 ≤ aj0) (am2 : n0 ≤ ag0) (ax3 : n0 ≤ an0) (ae6 : n0 ≤ o1) (at0 : o0 ≠ aj0) (ao0 : o0 ≠ ag0) (ay0 : o0 ≠ an0) (ap0 : o0 ≠ o1) (aj1 : aj0 ≠ ag0) (aq1 : aj0 ≠ an0) (ao1 : aj0 ≠ o1) (al1 : ag0 ≠ an0) (ab1 : ag0 ≠ o1) (as1 : an0 ≠ o1) (az2 : o0 ≠ am0) (aw9 : o0 ≠ q0) (av4 : o0 ≠ af1) (bo6 : o0 ≠ q1) (aa8 : o0 ≠ ao2) (ak2 : aj0 ≠ am0) (am5 : aj0 ≠ q0) (ao3 : aj0 ≠ af1) (am9 : aj0 ≠ q1) (ay5 : aj0 ≠ ao2) (ag2 : ag0 ≠ am0) (ae5 : ag0 ≠ q0) (ak3 : ag0 ≠ af1) (at8 : ag0 ≠ q1) (ao5 : ag0 ≠ ao2) (al2 : an0 ≠ am0) (at5 : an0 ≠ q0) (ay3 : an0 ≠ af1) (ax9 : an0 ≠ q1) (ag6 : an0 ≠ ao2) (ae2 : o1 ≠ am0) (ad4 : o1 ≠ q0) (ad3 : o1 ≠ af1) (an5 : o1 ≠ q1) (az5 : o1 ≠ ao2) (bn0 : o1 ≠ la) (hnz : ¬ (ab0 = (0 : Int32))) (hN : N.length = 16) (hCn : Cn.length = 16) (hU : U.length = 16) (hz : bg0 ag1) (hp0 : N[ah0 (ac0 c0)]? = some (.ref q0)) (hq0 : ¬ d0 = c0) (hp1 : N[ah0 (aw0 (ac0 c0))]? = some (.ref q1)) (hq1 : d1 = c0) (hk : Cn[ah0 (aw0 (ac0 c0))]? = some k) :
    ab3 l Z (⟨z_s0, "count", z_s9⟩ : MethodName) prog_128_method_2_code 5 (some .int) ws ({ frames := 2, cells := 0, slots := 0, locals := 28 } : Room) #[(.ref o0), (.ref o1)] h0 (fun (v : Option Value) (h : Heap) (L : List Loc) => v = some (.int (ax0 true k)) ∧ Fr n0 L ∧ Keep h0 h [o0, aj0, ag0, an0, o1] ∧ Exa Z h o0 z_s0 ∧ Fld Z h o0 z_s0 "names" z_s8 (.ref aj0) ∧ Fld Z h o0 z_s0 "counts" "[I" (.ref ag0) ∧ Fld Z h o0 z_s0 "used" "[I" (.ref an0) ∧ Fld Z h o0 z_s0 "size" "I" (.int (ac5 true ag1)) ∧ Fld Z h o0 z_s0 "last" z_s5 (.ref o1) ∧ Fld Z h o0 z_s0 "lastSlot" "I" (.int (aw0 (ac0 c0))) ∧ (ac2 z_s2) Z h aj0 (ap4 true N (ah0 (aw0 (ac0 c0))) o1) ∧ ah1 Z h ag0 (ai3 true Cn (ah0 (aw0 (ac0 c0))) k) ∧ ah1 Z h an0 (ap6 true U (ah0 ag1) (aw0 (ac0 c0))) ∧ Exa Z h o1 z_s2 ∧ Fld Z h o1 z_s2 "value" "[B" (.ref am0) ∧ Fld Z h o1 z_s2 "coder" "B" (.int (0 : Int32)) ∧ Fld Z h o1 z_s2 "hash" "I" (.int (ak1 c0)) ∧ Fld Z h o1 z_s2 "hashIsZero" "Z" (.int (aj6 (ak1 c0)))) := by
  refine al3 (plainFor_of_name aa1) ?_
  intro p e s m below meth c s₁ P hx hby hml hrt hlk hown hnm hZ X0 e0 hP
  have N0 := Fr.nil n0
  have K0 := Keep.refl h0 [o0, aj0, ag0, an0, o1]
  have hml' : c.maxLocals = 5 := hml
  refine ac4 (ed3 m o0 o1) ?_
  show aa0 p e below P (s₁.setTop (mkF m 0 #[.val (.ref o0), .val (.ref o1), .unset, .unset, .unset] []))
  refine ae0 X0 hx (hb hby bl2) rfl rfl ?_
  refine ae0 X0 hx (hb hby bm2) rfl rfl ?_
  refine au0 X0 hx hZ hown (host := "") (Or.inl (z_w hw 84 rfl)) Via.refl e0 av2 (hb hby bn2) (fun T1 X1 e1 => ?_)
  refine bi1 X1 hx rfl rfl (pc' := 23) (same := false) (hb hby bo2) (decide_eq_false fun q => bn0 (Value.ref.inj q)) ?_
  refine ae0 X1 hx (hb hby bs2) rfl rfl ?_
  refine au0 X1 hx hZ hown (host := "") (Or.inl (z_w hw 62 rfl)) Via.refl e1 ar2 (hb hby bt2) (fun T2 X2 e2 => ?_)
  refine ao9 X2 hx hZ e2 an2 (z := (16 : Int32)) (show Int32.ofNat N.length = (16 : Int32) from by simp only [List.length_set, hN]; rfl) (hb hby bu2) ?_
  refine az0 X2 hx (hb hby bv2) (z := (1 : Int32)) rfl ?_
  refine bt1 X2 hx (hb hby bw2) (z := (15 : Int32)) rfl ?_
  refine ag4 X2 hx (hb hby bx2) (l' := #[.val (.ref o0), .val (.ref o1), .val (.int (15 : Int32)), .unset, .unset]) rfl ?_
  refine ae0 X2 hx (hb hby by2) rfl rfl ?_
  refine az1 X2 hx hZ (y := (⟨z_s2, "hashCode", "()I"⟩ : MethodName)) (z := (⟨z_s2, "hashCode", "()I"⟩ : MethodName)) hown (z_w hw 97 rfl) (z_w hw 98 rfl) (notFace_of_selects (args := #[]) (mvT hZ (z_w hw 100 rfl))) (z_w hw 100 rfl) (z_w hw 99 rfl) (z_w hw 2 rfl) (z_w hw 101 rfl) E_o1 (cg0 l Z a0 hw [] o1 c0 am0 ab0 h0 n0 (Nat.le_trans Z0 K0.1) E_o1 ag3 ah3 an3 aa2 ar0 aj2 ae6 hnz) 0 e2 hml' (argsL := []) (rest := []) (lenOf au4 rfl) (hb hby bz2) (fun r3 T3 L3 X3 hQ3 => ?_)
  obtain ⟨rfl, Nq3, Kq3, f0_3, f1_3, f2_3, f3_3, f4_3⟩ := hQ3
  have N3 := Fr.app N0 Nq3
  have K3 := Keep.trans K0 Kq3 (allS (Or.inl (List.mem_of_getElem? (i := 4) rfl)) all0)
  show aa0 p e below P (T3.setTop (mkF m 35 #[.val (.ref o0), .val (.ref o1), .val (.int (15 : Int32)), .unset, .unset] [(.int (ak1 c0))]))
  refine as5 X3 hx hZ (y := (⟨z_s0, "spread", "(I)I"⟩ : MethodName)) hown (z_w hw 114 rfl) (z_w hw 115 rfl) (z_w hw 55 rfl) (z_w hw 116 rfl) (cd0 l Z a0 hw [] (ak1 c0)  T3.heap n0 (Nat.le_trans Z0 K3.1) ) 0 rfl hml' (argsL := [(.int (ak1 c0))]) (rest := []) (lenOf bm0 rfl) (hb hby ba3) (fun r4 T4 L4 X4 hQ4 => ?_)
  obtain ⟨rfl, Nq4, eq4⟩ := hQ4
  have N4 := Fr.app N3 Nq4
  show aa0 p e below P (T4.setTop (mkF m 38 #[.val (.ref o0), .val (.ref o1), .val (.int (15 : Int32)), .unset, .unset] [(.int (ap9 (ak1 c0)))]))
  refine ae1 X4 hx (hb hby bb3) rfl ?_
  refine az7 X4 hx (hb hby bc3) (z := ((ap9 (ak1 c0)) &&& (15 : Int32))) rfl ?_
  show aa0 p e below P (T4.setTop (mkF m 40 #[.val (.ref o0), .val (.ref o1), .val (.int (15 : Int32)), .unset, .unset] [(.int (ac0 c0))]))
  refine ag4 X4 hx (hb hby bd3) (l' := #[.val (.ref o0), .val (.ref o1), .val (.int (15 : Int32)), .val (.int (ac0 c0)), .unset]) rfl ?_
  refine ae0 X4 hx (hb hby a9) rfl rfl ?_
  have G5 := (ar2.keep Kq3 (ninS ap0 nin0))
  refine au0 X4 hx hZ hown (host := "") (Or.inl (z_w hw 62 rfl)) Via.refl eq4 G5 (hb hby aa9) (fun T6 X6 e6 => ?_)
  refine ae1 X6 hx (hb hby ab9) rfl ?_
  have G7 := (an2.keep Kq3 (ninS ao1 nin0))
  refine ay2 X6 hx hZ e6 G7 (j := (ac0 c0)) (v := (.ref q0)) (i := (ah0 (ac0 c0))) (ay4 _) hp0 (hb hby ac9) ?_
  refine bt0 X6 hx (hb hby ad9) ?_
  refine ae0 X6 hx (hb hby be3) rfl rfl ?_
  refine au0 X6 hx hZ hown (host := "") (Or.inl (z_w hw 62 rfl)) Via.refl e6 G5 (hb hby bf3) (fun T8 X8 e8 => ?_)
  refine ae1 X8 hx (hb hby bg3) rfl ?_
  refine ay2 X8 hx hZ e8 G7 (j := (ac0 c0)) (v := (.ref q0)) (i := (ah0 (ac0 c0))) (ay4 _) hp0 (hb hby bh3) ?_
  refine ae0 X8 hx (hb hby bi3) rfl rfl ?_
  refine bi1 X8 hx rfl rfl (pc' := 60) (same := false) (hb hby bj3) (decide_eq_false fun q => ad4.symm (Value.ref.inj q)) ?_
  refine ae0 X8 hx (hb hby bf5) rfl rfl ?_
  refine au0 X8 hx hZ hown (host := "") (Or.inl (z_w hw 62 rfl)) Via.refl e8 G5 (hb hby bg5) (fun T9 X9 e9 => ?_)
  refine ae1 X9 hx (hb hby bh5) rfl ?_
  refine ay2 X9 hx hZ e9 G7 (j := (ac0 c0)) (v := (.ref q0)) (i := (ah0 (ac0 c0))) (ay4 _) hp0 (hb hby bi5) ?_
  refine ae0 X9 hx (hb hby bj5) rfl rfl ?_
  have G11 := (E_q0.keep Kq3)
  have G12 := (aj5.keep Kq3 (ninS ad4.symm nin0))
  have G13 := (ak5.keep Kq3 (ninS ad4.symm nin0))
  have G14 := (ad2 ar0 Kq3 (allS (aw3 E_o1) all0))
  have G15 := (aq4.keep Kq3 (ninS ad3.symm nin0))
  have G16 := (aj2.keep Kq3 (ninS ae2.symm nin0))
  refine az1 X9 hx hZ (y := (⟨z_s2, "equals", "(Ljava/lang/Object;)Z"⟩ : MethodName)) (z := (⟨z_s2, "equals", "(Ljava/lang/Object;)Z"⟩ : MethodName)) hown (z_w hw 124 rfl) (z_w hw 125 rfl) (notFace_of_selects (args := #[]) (mvT hZ (z_w hw 127 rfl))) (z_w hw 127 rfl) (z_w hw 126 rfl) (z_w hw 2 rfl) (z_w hw 128 rfl) G11 (cf2 l Z a0 hw [] q0 o1 d0 c0 af1 am0 ab0 T3.heap n0 (Nat.le_trans Z0 K3.1) G11 f0_3 G12 G13 f1_3 f2_3 G14 G15 G16 ad4.symm hnz) 0 e9 hml' (argsL := [(.ref o1)]) (rest := []) (lenOf ai5 rfl) (hb hby bk5) (fun r10 T10 L10 X10 hQ10 => ?_)
  obtain ⟨rfl, Nq10, eq10⟩ := hQ10
  have N10 := Fr.app N4 Nq10
  show aa0 p e below P (T10.setTop (mkF m 70 #[.val (.ref o0), .val (.ref o1), .val (.int (15 : Int32)), .val (.int (ac0 c0)), .unset] [(.int (ah8 d0 c0 ab0))]))
  have hd17 : (ah8 d0 c0 ab0) = (0 : Int32) := by exact cm5 hq0
  refine aq7 X10 hx (hb hby bl5) ((if0 _ _).trans (teq hd17).2) ?_
  refine ae1 X10 hx (hb hby cv0) rfl ?_
  refine az0 X10 hx (hb hby cw0) (z := (1 : Int32)) rfl ?_
  refine ad6 X10 hx (hb hby cx0) (z := ((ac0 c0) + (1 : Int32))) rfl ?_
  refine ae1 X10 hx (hb hby cy0) rfl ?_
  refine az7 X10 hx (hb hby cz0) (z := (((ac0 c0) + (1 : Int32)) &&& (15 : Int32))) rfl ?_
  show aa0 p e below P (T10.setTop (mkF m 78 #[.val (.ref o0), .val (.ref o1), .val (.int (15 : Int32)), .val (.int (ac0 c0)), .unset] [(.int (aw0 (ac0 c0)))]))
  refine ag4 X10 hx (hb hby ca1) (l' := #[.val (.ref o0), .val (.ref o1), .val (.int (15 : Int32)), .val (.int (aw0 (ac0 c0))), .unset]) rfl ?_
  refine ao4 X10 hx (pc' := 41) (hb hby cb1) ?_
  refine ae0 X10 hx (hb hby a9) rfl rfl ?_
  refine au0 X10 hx hZ hown (host := "") (Or.inl (z_w hw 62 rfl)) Via.refl eq10 G5 (hb hby aa9) (fun T18 X18 e18 => ?_)
  refine ae1 X18 hx (hb hby ab9) rfl ?_
  refine ay2 X18 hx hZ e18 G7 (j := (aw0 (ac0 c0))) (v := (.ref q1)) (i := (ah0 (aw0 (ac0 c0)))) (aq9 _) hp1 (hb hby ac9) ?_
  refine bt0 X18 hx (hb hby ad9) ?_
  refine ae0 X18 hx (hb hby be3) rfl rfl ?_
  refine au0 X18 hx hZ hown (host := "") (Or.inl (z_w hw 62 rfl)) Via.refl e18 G5 (hb hby bf3) (fun T19 X19 e19 => ?_)
  refine ae1 X19 hx (hb hby bg3) rfl ?_
  refine ay2 X19 hx hZ e19 G7 (j := (aw0 (ac0 c0))) (v := (.ref q1)) (i := (ah0 (aw0 (ac0 c0)))) (aq9 _) hp1 (hb hby bh3) ?_
  refine ae0 X19 hx (hb hby bi3) rfl rfl ?_
  refine bi1 X19 hx rfl rfl (pc' := 60) (same := false) (hb hby bj3) (decide_eq_false fun q => an5.symm (Value.ref.inj q)) ?_
  refine ae0 X19 hx (hb hby bf5) rfl rfl ?_
  refine au0 X19 hx hZ hown (host := "") (Or.inl (z_w hw 62 rfl)) Via.refl e19 G5 (hb hby bg5) (fun T20 X20 e20 => ?_)
  refine ae1 X20 hx (hb hby bh5) rfl ?_
  refine ay2 X20 hx hZ e20 G7 (j := (aw0 (ac0 c0))) (v := (.ref q1)) (i := (ah0 (aw0 (ac0 c0)))) (aq9 _) hp1 (hb hby bi5) ?_
  refine ae0 X20 hx (hb hby bj5) rfl rfl ?_
  have G22 := (E_q1.keep Kq3)
  have G23 := (au9.keep Kq3 (ninS an5.symm nin0))
  have G24 := (av9.keep Kq3 (ninS an5.symm nin0))
  have G25 := (a8.keep Kq3 (ninS az5.symm nin0))
  refine az1 X20 hx hZ (y := (⟨z_s2, "equals", "(Ljava/lang/Object;)Z"⟩ : MethodName)) (z := (⟨z_s2, "equals", "(Ljava/lang/Object;)Z"⟩ : MethodName)) hown (z_w hw 124 rfl) (z_w hw 125 rfl) (notFace_of_selects (args := #[]) (mvT hZ (z_w hw 127 rfl))) (z_w hw 127 rfl) (z_w hw 126 rfl) (z_w hw 2 rfl) (z_w hw 128 rfl) G22 (cf2 l Z a0 hw [] q1 o1 d1 c0 ao2 am0 ab0 T3.heap n0 (Nat.le_trans Z0 K3.1) G22 f0_3 G23 G24 f1_3 f2_3 G14 G25 G16 an5.symm hnz) 0 e20 hml' (argsL := [(.ref o1)]) (rest := []) (lenOf ai5 rfl) (hb hby bk5) (fun r21 T21 L21 X21 hQ21 => ?_)
  obtain ⟨rfl, Nq21, eq21⟩ := hQ21
  have N21 := Fr.app N10 Nq21
  show aa0 p e below P (T21.setTop (mkF m 70 #[.val (.ref o0), .val (.ref o1), .val (.int (15 : Int32)), .val (.int (aw0 (ac0 c0))), .unset] [(.int (ah8 d1 c0 ab0))]))
  have hd26 : ¬ ((ah8 d1 c0 ab0) = (0 : Int32)) := by exact dw4 hq1
  refine al7 X21 hx (pc' := 82) (hb hby bl5) ((if0 _ _).trans (feq hd26).2) ?_
  refine ae0 X21 hx (hb hby bk3) rfl rfl ?_
  refine au0 X21 hx hZ hown (host := "") (Or.inl (z_w hw 62 rfl)) Via.refl eq21 G5 (hb hby bl3) (fun T27 X27 e27 => ?_)
  refine ae1 X27 hx (hb hby bm3) rfl ?_
  refine ay2 X27 hx hZ e27 G7 (j := (aw0 (ac0 c0))) (v := (.ref q1)) (i := (ah0 (aw0 (ac0 c0)))) (aq9 _) hp1 (hb hby bn3) ?_
  refine bt0 X27 hx (hb hby bo3) ?_
  refine ae0 X27 hx (hb hby cd3) rfl rfl ?_
  have G28 := (aw2.keep Kq3 (ninS ap0 nin0))
  refine au0 X27 hx hZ hown (host := "") (Or.inl (z_w hw 65 rfl)) Via.refl e27 G28 (hb hby ce3) (fun T29 X29 e29 => ?_)
  refine ae1 X29 hx (hb hby cf3) rfl ?_
  refine cq7 X29 hx (hb hby cg3) rfl rfl ?_
  have G30 := (at2.keep Kq3 (ninS ab1 nin0))
  refine cb4 X29 hx hZ e29 G30 (j := (aw0 (ac0 c0))) (v := k) (i := (ah0 (aw0 (ac0 c0)))) (aq9 _) hk (hb hby ch3) ?_
  refine az0 X29 hx (hb hby ci3) (z := (1 : Int32)) rfl ?_
  refine ad6 X29 hx (hb hby cj3) (z := (k + (1 : Int32))) rfl ?_
  refine cz2 X29 hx (hb hby cl2) ?_
  show aa0 p e below P (T29.setTop (mkF m 101 #[.val (.ref o0), .val (.ref o1), .val (.int (15 : Int32)), .val (.int (aw0 (ac0 c0))), .unset] [(.int (k + (1 : Int32))), (.int (aw0 (ac0 c0))), (.ref ag0), (.int (k + (1 : Int32)))]))
  refine bh0 X29 hx hZ e29 G30 (j := (aw0 (ac0 c0))) (v := (k + (1 : Int32))) (i := (ah0 (aw0 (ac0 c0)))) (aq9 _) (List.getElem?_eq_some_iff.mp hk).1 (hb hby cm2) (fun T31 h31 X31 e31 W31 B31 => ?_)
  have A31 : ah1 Z h31 ag0 (Cn.set (ah0 (aw0 (ac0 c0))) (k + (1 : Int32))) := B31
  have N31 := Fr.snoc X31 N21 am2
  have K31 := Keep.wr K3 W31 (Or.inl (List.mem_of_getElem? (i := 2) rfl))
  refine as4 X31 hx (hb hby cn2) (l' := #[.val (.ref o0), .val (.ref o1), .val (.int (15 : Int32)), .val (.int (aw0 (ac0 c0))), .val (.int (k + (1 : Int32)))]) rfl ?_
  refine ao4 X31 hx (pc' := 165) (hb hby co2) ?_
  refine ae0 X31 hx (hb hby bu1) rfl rfl ?_
  refine ae0 X31 hx (hb hby bv1) rfl rfl ?_
  have G32 := ((av2.keep Kq3 (ninS ap0 nin0)).other W31 (Or.inl ao0))
  have G33 := ((E_o0.keep Kq3).wr W31)
  refine am4 X31 hx hZ hown (host := "") (Or.inl (z_w hw 84 rfl)) Via.refl e31 G32 G33 (Or.inl (z_w hw 85 rfl)) (z_w hw 54 rfl) (ty := (.object z_s2)) (by decide) (hb hby bw1) (fun T34 h34 X34 e34 W34 => ?_)
  have N34 := Fr.snoc X34 N31 ah2
  have K34 := Keep.wr K31 W34 (Or.inl (List.mem_of_getElem? (i := 0) rfl))
  have F34 := G32.same W34
  refine ae0 X34 hx (hb hby bx1) rfl rfl ?_
  refine ae1 X34 hx (hb hby by1) rfl ?_
  have G35 := (((ap2.keep Kq3 (ninS ap0 nin0)).other W31 (Or.inl ao0)).other W34 (Or.inr (slot_ne (Or.inl (z_w hw 118 rfl)) (Or.inl (z_w hw 85 rfl)) (by decide) (t := .int) (t' := (.object z_s2)) (by decide) (by decide))))
  have G36 := (G33.wr W34)
  refine am4 X34 hx hZ hown (host := "") (Or.inl (z_w hw 117 rfl)) Via.refl e34 G35 G36 (Or.inl (z_w hw 118 rfl)) (z_w hw 54 rfl) (ty := .int) (by decide) (hb hby bz1) (fun T37 h37 X37 e37 W37 => ?_)
  have N37 := Fr.snoc X37 N34 ah2
  have K37 := Keep.wr K34 W37 (Or.inl (List.mem_of_getElem? (i := 0) rfl))
  have F37 := G35.same W37
  refine ay1 X37 hx (hb hby ba2) rfl ?_
  refine ao7 X37 hx hlk hP hrt (hb hby bb2) (by decide) (by decide) ?_
  have G38 := (G36.wr W37)
  have G39 := (((G5.other W31 (Or.inl ao0)).other W34 (Or.inr (slot_ne (Or.inl (z_w hw 63 rfl)) (Or.inl (z_w hw 85 rfl)) (by decide) (t := (.array (.object z_s2))) (t' := (.object z_s2)) (by decide) (by decide)))).other W37 (Or.inr (slot_ne (Or.inl (z_w hw 63 rfl)) (Or.inl (z_w hw 118 rfl)) (by decide) (t := (.array (.object z_s2))) (t' := .int) (by decide) (by decide))))
  have G40 := (((G28.other W31 (Or.inl ao0)).other W34 (Or.inr (slot_ne (Or.inl (z_w hw 66 rfl)) (Or.inl (z_w hw 85 rfl)) (by decide) (t := (.array .int)) (t' := (.object z_s2)) (by decide) (by decide)))).other W37 (Or.inr (slot_ne (Or.inl (z_w hw 66 rfl)) (Or.inl (z_w hw 118 rfl)) (by decide) (t := (.array .int)) (t' := .int) (by decide) (by decide))))
  have G41 := ((((ah4.keep Kq3 (ninS ap0 nin0)).other W31 (Or.inl ao0)).other W34 (Or.inr (slot_ne (Or.inl (z_w hw 68 rfl)) (Or.inl (z_w hw 85 rfl)) (by decide) (t := (.array .int)) (t' := (.object z_s2)) (by decide) (by decide)))).other W37 (Or.inr (slot_ne (Or.inl (z_w hw 68 rfl)) (Or.inl (z_w hw 118 rfl)) (by decide) (t := (.array .int)) (t' := .int) (by decide) (by decide))))
  have G42 := ((((af3.keep Kq3 (ninS ap0 nin0)).other W31 (Or.inl ao0)).other W34 (Or.inr (slot_ne (Or.inl (z_w hw 83 rfl)) (Or.inl (z_w hw 85 rfl)) (by decide) (t := .int) (t' := (.object z_s2)) (by decide) (by decide)))).other W37 (Or.inr (slot_ne (Or.inl (z_w hw 83 rfl)) (Or.inl (z_w hw 118 rfl)) (by decide) (t := .int) (t' := .int) (by decide) (by decide))))
  have G43 := (F34.other W37 (Or.inr (slot_ne (Or.inl (z_w hw 85 rfl)) (Or.inl (z_w hw 118 rfl)) (by decide) (t := (.object z_s2)) (t' := .int) (by decide) (by decide))))
  have G44 := (((G7.other W31 aj1).other W34 at0.symm).other W37 at0.symm)
  have G45 := ((A31.other W34 ao0.symm).other W37 ao0.symm)
  have G46 := ((((aj4.keep Kq3 (ninS as1 nin0)).other W31 al1.symm).other W34 ay0.symm).other W37 ay0.symm)
  have G47 := (((f0_3.wr W31).wr W34).wr W37)
  have G48 := (((f1_3.other W31 (Or.inl ab1.symm)).other W34 (Or.inl ap0.symm)).other W37 (Or.inl ap0.symm))
  have G49 := (((f2_3.other W31 (Or.inl ab1.symm)).other W34 (Or.inl ap0.symm)).other W37 (Or.inl ap0.symm))
  have G50 := (((f3_3.other W31 (Or.inl ab1.symm)).other W34 (Or.inl ap0.symm)).other W37 (Or.inl ap0.symm))
  have G51 := (((f4_3.other W31 (Or.inl ab1.symm)).other W34 (Or.inl ap0.symm)).other W37 (Or.inl ap0.symm))
  have hfin : (fun (v : Option Value) (h : Heap) (L : List Loc) => v = some (.int (ax0 true k)) ∧ Fr n0 L ∧ Keep h0 h [o0, aj0, ag0, an0, o1] ∧ Exa Z h o0 z_s0 ∧ Fld Z h o0 z_s0 "names" z_s8 (.ref aj0) ∧ Fld Z h o0 z_s0 "counts" "[I" (.ref ag0) ∧ Fld Z h o0 z_s0 "used" "[I" (.ref an0) ∧ Fld Z h o0 z_s0 "size" "I" (.int (ac5 true ag1)) ∧ Fld Z h o0 z_s0 "last" z_s5 (.ref o1) ∧ Fld Z h o0 z_s0 "lastSlot" "I" (.int (aw0 (ac0 c0))) ∧ (ac2 z_s2) Z h aj0 (ap4 true N (ah0 (aw0 (ac0 c0))) o1) ∧ ah1 Z h ag0 (ai3 true Cn (ah0 (aw0 (ac0 c0))) k) ∧ ah1 Z h an0 (ap6 true U (ah0 ag1) (aw0 (ac0 c0))) ∧ Exa Z h o1 z_s2 ∧ Fld Z h o1 z_s2 "value" "[B" (.ref am0) ∧ Fld Z h o1 z_s2 "coder" "B" (.int (0 : Int32)) ∧ Fld Z h o1 z_s2 "hash" "I" (.int (ak1 c0)) ∧ Fld Z h o1 z_s2 "hashIsZero" "Z" (.int (aj6 (ak1 c0)))) (some (.int (ax0 true k))) h37 _ := ⟨rfl, N37, K37, G38, G39, G40, G41, G42, G43, F37, G44, G45, G46, G47, G48, G49, G50, G51⟩
  rw [e37]; exact hfin
theorem ee3 (m : MethodId) (o0 : Addr) (o1 : Addr) : entryFrame m #[(.ref o0), (.ref o1)] 5 = mkF m 0 #[.val (.ref o0), .val (.ref o1), .unset, .unset, .unset] [] := by first | (simp [entryFrame, mkF, argsToLocals, Value.category]; done) | rfl
set_option maxRecDepth 65536 in
set_option maxHeartbeats 40000000 in
theorem es4 (l : Launch) (Z : State) (a0 : Array Value) (hw : ∀ d ∈ tables_1, d.before a0 Z = true) (ws : List Jvm.Cond) (o0 : Addr) (o1 : Addr) (c0 : Int32) (N : List Value) (Cn : List Int32) (k : Int32) (la : Addr) (aj0 : Addr) (ag0 : Addr) (an0 : Addr) (ag1 : Int32) (av1 : Int32) (h0 : Heap) (n0 : Nat) (Z0 : n0 ≤ h0.size) (E_o0 : Exa Z h0 o0 z_s0) (E_o1 : Exa Z h0 o1 z_s2) (ar2 : Fld Z h0 o0 z_s0 "names" z_s8 (.ref aj0)) (aw2 : Fld Z h0 o0 z_s0 "counts" "[I" (.ref ag0)) (ah4 : Fld Z h0 o0 z_s0 "used" "[I" (.ref an0)) (af3 : Fld Z h0 o0 z_s0 "size" "I" (.int ag1)) (av2 : Fld Z h0 o0 z_s0 "last" z_s5 (.ref la)) (ap2 : Fld Z h0 o0 z_s0 "lastSlot" "I" (.int av1)) (an3 : Fld Z h0 o1 z_s2 "hash" "I" (.int (ak1 c0))) (aa2 : Fld Z h0 o1 z_s2 "hashIsZero" "Z" (.int (aj6 (ak1 c0)))) (an2 : (ac2 z_s2) Z h0 aj0 N) (at2 : ah1 Z h0 ag0 Cn) (ah2 : n0 ≤ o0) (am2 : n0 ≤ ag0) (ao0 : o0 ≠ ag0) (at0 : o0 ≠ aj0) (ap0 : o0 ≠ o1) (ds0 : ag0 ≠ aj0) (ab1 : ag0 ≠ o1) (bn0 : o1 ≠ la) (hN : N.length = 16) (hCn : Cn.length = 16) (hp0 : N[ah0 (ac0 c0)]? = some (.ref o1)) (hk : Cn[ah0 (ac0 c0)]? = some k) :
    ab3 l Z (⟨z_s0, "count", z_s9⟩ : MethodName) prog_128_method_2_code 5 (some .int) ws ({ frames := 2, cells := 0, slots := 0, locals := 28 } : Room) #[(.ref o0), (.ref o1)] h0 (fun (v : Option Value) (h : Heap) (L : List Loc) => v = some (.int (ax0 true k)) ∧ Fr n0 L ∧ Keep h0 h [o0, ag0] ∧ Exa Z h o0 z_s0 ∧ Fld Z h o0 z_s0 "names" z_s8 (.ref aj0) ∧ Fld Z h o0 z_s0 "counts" "[I" (.ref ag0) ∧ Fld Z h o0 z_s0 "used" "[I" (.ref an0) ∧ Fld Z h o0 z_s0 "size" "I" (.int (ac5 true ag1)) ∧ Fld Z h o0 z_s0 "last" z_s5 (.ref o1) ∧ Fld Z h o0 z_s0 "lastSlot" "I" (.int (ac0 c0)) ∧ ah1 Z h ag0 (ai3 true Cn (ah0 (ac0 c0)) k)) := by
  refine al3 (plainFor_of_name aa1) ?_
  intro p e s m below meth c s₁ P hx hby hml hrt hlk hown hnm hZ X0 e0 hP
  have N0 := Fr.nil n0
  have K0 := Keep.refl h0 [o0, ag0]
  have hml' : c.maxLocals = 5 := hml
  refine ac4 (ee3 m o0 o1) ?_
  show aa0 p e below P (s₁.setTop (mkF m 0 #[.val (.ref o0), .val (.ref o1), .unset, .unset, .unset] []))
  refine ae0 X0 hx (hb hby bl2) rfl rfl ?_
  refine ae0 X0 hx (hb hby bm2) rfl rfl ?_
  refine au0 X0 hx hZ hown (host := "") (Or.inl (z_w hw 84 rfl)) Via.refl e0 av2 (hb hby bn2) (fun T1 X1 e1 => ?_)
  refine bi1 X1 hx rfl rfl (pc' := 23) (same := false) (hb hby bo2) (decide_eq_false fun q => bn0 (Value.ref.inj q)) ?_
  refine ae0 X1 hx (hb hby bs2) rfl rfl ?_
  refine au0 X1 hx hZ hown (host := "") (Or.inl (z_w hw 62 rfl)) Via.refl e1 ar2 (hb hby bt2) (fun T2 X2 e2 => ?_)
  refine ao9 X2 hx hZ e2 an2 (z := (16 : Int32)) (show Int32.ofNat N.length = (16 : Int32) from by simp only [List.length_set, hN]; rfl) (hb hby bu2) ?_
  refine az0 X2 hx (hb hby bv2) (z := (1 : Int32)) rfl ?_
  refine bt1 X2 hx (hb hby bw2) (z := (15 : Int32)) rfl ?_
  refine ag4 X2 hx (hb hby bx2) (l' := #[.val (.ref o0), .val (.ref o1), .val (.int (15 : Int32)), .unset, .unset]) rfl ?_
  refine ae0 X2 hx (hb hby by2) rfl rfl ?_
  refine az1 X2 hx hZ (y := (⟨z_s2, "hashCode", "()I"⟩ : MethodName)) (z := (⟨z_s2, "hashCode", "()I"⟩ : MethodName)) hown (z_w hw 97 rfl) (z_w hw 98 rfl) (notFace_of_selects (args := #[]) (mvT hZ (z_w hw 100 rfl))) (z_w hw 100 rfl) (z_w hw 99 rfl) (z_w hw 2 rfl) (z_w hw 101 rfl) E_o1 (ex2 l Z a0 hw [] o1 (ak1 c0) h0 n0 (Nat.le_trans Z0 K0.1) an3 aa2) 0 e2 hml' (argsL := []) (rest := []) (lenOf au4 rfl) (hb hby bz2) (fun r3 T3 L3 X3 hQ3 => ?_)
  obtain ⟨rfl, Nq3, eq3⟩ := hQ3
  have N3 := Fr.app N0 Nq3
  show aa0 p e below P (T3.setTop (mkF m 35 #[.val (.ref o0), .val (.ref o1), .val (.int (15 : Int32)), .unset, .unset] [(.int (ak1 c0))]))
  refine as5 X3 hx hZ (y := (⟨z_s0, "spread", "(I)I"⟩ : MethodName)) hown (z_w hw 114 rfl) (z_w hw 115 rfl) (z_w hw 55 rfl) (z_w hw 116 rfl) (cd0 l Z a0 hw [] (ak1 c0)  h0 n0 (Nat.le_trans Z0 K0.1) ) 0 eq3 hml' (argsL := [(.int (ak1 c0))]) (rest := []) (lenOf bm0 rfl) (hb hby ba3) (fun r4 T4 L4 X4 hQ4 => ?_)
  obtain ⟨rfl, Nq4, eq4⟩ := hQ4
  have N4 := Fr.app N3 Nq4
  show aa0 p e below P (T4.setTop (mkF m 38 #[.val (.ref o0), .val (.ref o1), .val (.int (15 : Int32)), .unset, .unset] [(.int (ap9 (ak1 c0)))]))
  refine ae1 X4 hx (hb hby bb3) rfl ?_
  refine az7 X4 hx (hb hby bc3) (z := ((ap9 (ak1 c0)) &&& (15 : Int32))) rfl ?_
  show aa0 p e below P (T4.setTop (mkF m 40 #[.val (.ref o0), .val (.ref o1), .val (.int (15 : Int32)), .unset, .unset] [(.int (ac0 c0))]))
  refine ag4 X4 hx (hb hby bd3) (l' := #[.val (.ref o0), .val (.ref o1), .val (.int (15 : Int32)), .val (.int (ac0 c0)), .unset]) rfl ?_
  refine ae0 X4 hx (hb hby a9) rfl rfl ?_
  refine au0 X4 hx hZ hown (host := "") (Or.inl (z_w hw 62 rfl)) Via.refl eq4 ar2 (hb hby aa9) (fun T5 X5 e5 => ?_)
  refine ae1 X5 hx (hb hby ab9) rfl ?_
  refine ay2 X5 hx hZ e5 an2 (j := (ac0 c0)) (v := (.ref o1)) (i := (ah0 (ac0 c0))) (ay4 _) hp0 (hb hby ac9) ?_
  refine bt0 X5 hx (hb hby ad9) ?_
  refine ae0 X5 hx (hb hby be3) rfl rfl ?_
  refine au0 X5 hx hZ hown (host := "") (Or.inl (z_w hw 62 rfl)) Via.refl e5 ar2 (hb hby bf3) (fun T6 X6 e6 => ?_)
  refine ae1 X6 hx (hb hby bg3) rfl ?_
  refine ay2 X6 hx hZ e6 an2 (j := (ac0 c0)) (v := (.ref o1)) (i := (ah0 (ac0 c0))) (ay4 _) hp0 (hb hby bh3) ?_
  refine ae0 X6 hx (hb hby bi3) rfl rfl ?_
  refine bi1 X6 hx rfl rfl (pc' := 82) (same := true) (hb hby bj3) (decide_eq_true rfl) ?_
  refine ae0 X6 hx (hb hby bk3) rfl rfl ?_
  refine au0 X6 hx hZ hown (host := "") (Or.inl (z_w hw 62 rfl)) Via.refl e6 ar2 (hb hby bl3) (fun T7 X7 e7 => ?_)
  refine ae1 X7 hx (hb hby bm3) rfl ?_
  refine ay2 X7 hx hZ e7 an2 (j := (ac0 c0)) (v := (.ref o1)) (i := (ah0 (ac0 c0))) (ay4 _) hp0 (hb hby bn3) ?_
  refine bt0 X7 hx (hb hby bo3) ?_
  refine ae0 X7 hx (hb hby cd3) rfl rfl ?_
  refine au0 X7 hx hZ hown (host := "") (Or.inl (z_w hw 65 rfl)) Via.refl e7 aw2 (hb hby ce3) (fun T8 X8 e8 => ?_)
  refine ae1 X8 hx (hb hby cf3) rfl ?_
  refine cq7 X8 hx (hb hby cg3) rfl rfl ?_
  refine cb4 X8 hx hZ e8 at2 (j := (ac0 c0)) (v := k) (i := (ah0 (ac0 c0))) (ay4 _) hk (hb hby ch3) ?_
  refine az0 X8 hx (hb hby ci3) (z := (1 : Int32)) rfl ?_
  refine ad6 X8 hx (hb hby cj3) (z := (k + (1 : Int32))) rfl ?_
  refine cz2 X8 hx (hb hby cl2) ?_
  show aa0 p e below P (T8.setTop (mkF m 101 #[.val (.ref o0), .val (.ref o1), .val (.int (15 : Int32)), .val (.int (ac0 c0)), .unset] [(.int (k + (1 : Int32))), (.int (ac0 c0)), (.ref ag0), (.int (k + (1 : Int32)))]))
  refine bh0 X8 hx hZ e8 at2 (j := (ac0 c0)) (v := (k + (1 : Int32))) (i := (ah0 (ac0 c0))) (ay4 _) (List.getElem?_eq_some_iff.mp hk).1 (hb hby cm2) (fun T9 h9 X9 e9 W9 B9 => ?_)
  have A9 : ah1 Z h9 ag0 (Cn.set (ah0 (ac0 c0)) (k + (1 : Int32))) := B9
  have N9 := Fr.snoc X9 N4 am2
  have K9 := Keep.wr K0 W9 (Or.inl (List.mem_of_getElem? (i := 1) rfl))
  refine as4 X9 hx (hb hby cn2) (l' := #[.val (.ref o0), .val (.ref o1), .val (.int (15 : Int32)), .val (.int (ac0 c0)), .val (.int (k + (1 : Int32)))]) rfl ?_
  refine ao4 X9 hx (pc' := 165) (hb hby co2) ?_
  refine ae0 X9 hx (hb hby bu1) rfl rfl ?_
  refine ae0 X9 hx (hb hby bv1) rfl rfl ?_
  have G10 := (av2.other W9 (Or.inl ao0))
  have G11 := (E_o0.wr W9)
  refine am4 X9 hx hZ hown (host := "") (Or.inl (z_w hw 84 rfl)) Via.refl e9 G10 G11 (Or.inl (z_w hw 85 rfl)) (z_w hw 54 rfl) (ty := (.object z_s2)) (by decide) (hb hby bw1) (fun T12 h12 X12 e12 W12 => ?_)
  have N12 := Fr.snoc X12 N9 ah2
  have K12 := Keep.wr K9 W12 (Or.inl (List.mem_of_getElem? (i := 0) rfl))
  have F12 := G10.same W12
  refine ae0 X12 hx (hb hby bx1) rfl rfl ?_
  refine ae1 X12 hx (hb hby by1) rfl ?_
  have G13 := ((ap2.other W9 (Or.inl ao0)).other W12 (Or.inr (slot_ne (Or.inl (z_w hw 118 rfl)) (Or.inl (z_w hw 85 rfl)) (by decide) (t := .int) (t' := (.object z_s2)) (by decide) (by decide))))
  have G14 := (G11.wr W12)
  refine am4 X12 hx hZ hown (host := "") (Or.inl (z_w hw 117 rfl)) Via.refl e12 G13 G14 (Or.inl (z_w hw 118 rfl)) (z_w hw 54 rfl) (ty := .int) (by decide) (hb hby bz1) (fun T15 h15 X15 e15 W15 => ?_)
  have N15 := Fr.snoc X15 N12 ah2
  have K15 := Keep.wr K12 W15 (Or.inl (List.mem_of_getElem? (i := 0) rfl))
  have F15 := G13.same W15
  refine ay1 X15 hx (hb hby ba2) rfl ?_
  refine ao7 X15 hx hlk hP hrt (hb hby bb2) (by decide) (by decide) ?_
  have G16 := (G14.wr W15)
  have G17 := (((ar2.other W9 (Or.inl ao0)).other W12 (Or.inr (slot_ne (Or.inl (z_w hw 63 rfl)) (Or.inl (z_w hw 85 rfl)) (by decide) (t := (.array (.object z_s2))) (t' := (.object z_s2)) (by decide) (by decide)))).other W15 (Or.inr (slot_ne (Or.inl (z_w hw 63 rfl)) (Or.inl (z_w hw 118 rfl)) (by decide) (t := (.array (.object z_s2))) (t' := .int) (by decide) (by decide))))
  have G18 := (((aw2.other W9 (Or.inl ao0)).other W12 (Or.inr (slot_ne (Or.inl (z_w hw 66 rfl)) (Or.inl (z_w hw 85 rfl)) (by decide) (t := (.array .int)) (t' := (.object z_s2)) (by decide) (by decide)))).other W15 (Or.inr (slot_ne (Or.inl (z_w hw 66 rfl)) (Or.inl (z_w hw 118 rfl)) (by decide) (t := (.array .int)) (t' := .int) (by decide) (by decide))))
  have G19 := (((ah4.other W9 (Or.inl ao0)).other W12 (Or.inr (slot_ne (Or.inl (z_w hw 68 rfl)) (Or.inl (z_w hw 85 rfl)) (by decide) (t := (.array .int)) (t' := (.object z_s2)) (by decide) (by decide)))).other W15 (Or.inr (slot_ne (Or.inl (z_w hw 68 rfl)) (Or.inl (z_w hw 118 rfl)) (by decide) (t := (.array .int)) (t' := .int) (by decide) (by decide))))
  have G20 := (((af3.other W9 (Or.inl ao0)).other W12 (Or.inr (slot_ne (Or.inl (z_w hw 83 rfl)) (Or.inl (z_w hw 85 rfl)) (by decide) (t := .int) (t' := (.object z_s2)) (by decide) (by decide)))).other W15 (Or.inr (slot_ne (Or.inl (z_w hw 83 rfl)) (Or.inl (z_w hw 118 rfl)) (by decide) (t := .int) (t' := .int) (by decide) (by decide))))
  have G21 := (F12.other W15 (Or.inr (slot_ne (Or.inl (z_w hw 85 rfl)) (Or.inl (z_w hw 118 rfl)) (by decide) (t := (.object z_s2)) (t' := .int) (by decide) (by decide))))
  have G22 := ((A9.other W12 ao0.symm).other W15 ao0.symm)
  have hfin : (fun (v : Option Value) (h : Heap) (L : List Loc) => v = some (.int (ax0 true k)) ∧ Fr n0 L ∧ Keep h0 h [o0, ag0] ∧ Exa Z h o0 z_s0 ∧ Fld Z h o0 z_s0 "names" z_s8 (.ref aj0) ∧ Fld Z h o0 z_s0 "counts" "[I" (.ref ag0) ∧ Fld Z h o0 z_s0 "used" "[I" (.ref an0) ∧ Fld Z h o0 z_s0 "size" "I" (.int (ac5 true ag1)) ∧ Fld Z h o0 z_s0 "last" z_s5 (.ref o1) ∧ Fld Z h o0 z_s0 "lastSlot" "I" (.int (ac0 c0)) ∧ ah1 Z h ag0 (ai3 true Cn (ah0 (ac0 c0)) k)) (some (.int (ax0 true k))) h15 _ := ⟨rfl, N15, K15, G16, G17, G18, G19, G20, G21, F15, G22⟩
  rw [e15]; exact hfin
theorem df7 : decode prog_128_method_2_code 8 = .ok (.aload_n 0, 1) := by decide +kernel
theorem dg7 : decode prog_128_method_2_code 9 = .ok (.getfield 15, 3) := by decide +kernel
theorem dv3 : decode prog_128_method_2_code 12 = .ok (.aload_n 0, 1) := by decide +kernel
theorem dw3 : decode prog_128_method_2_code 13 = .ok (.getfield 26, 3) := by decide +kernel
theorem dx3 : decode prog_128_method_2_code 16 = .ok (.dup2, 1) := by decide +kernel
theorem dy3 : decode prog_128_method_2_code 17 = .ok (.iaload, 1) := by decide +kernel
theorem dz3 : decode prog_128_method_2_code 18 = .ok (.iconst 1, 1) := by decide +kernel
theorem d4 : decode prog_128_method_2_code 19 = .ok (.iadd, 1) := by decide +kernel
theorem da4 : decode prog_128_method_2_code 20 = .ok (.dup_x2, 1) := by decide +kernel
theorem db4 : decode prog_128_method_2_code 21 = .ok (.iastore, 1) := by decide +kernel
theorem dc4 : decode prog_128_method_2_code 22 = .ok (.ireturn, 1) := by decide +kernel
theorem ef3 (m : MethodId) (o0 : Addr) (o1 : Addr) : entryFrame m #[(.ref o0), (.ref o1)] 5 = mkF m 0 #[.val (.ref o0), .val (.ref o1), .unset, .unset, .unset] [] := by first | (simp [entryFrame, mkF, argsToLocals, Value.category]; done) | rfl
set_option maxRecDepth 65536 in
set_option maxHeartbeats 40000000 in
theorem et4 (l : Launch) (Z : State) (a0 : Array Value) (hw : ∀ d ∈ tables_1, d.before a0 Z = true) (ws : List Jvm.Cond) (o0 : Addr) (o1 : Addr) (Cn : List Int32) (k : Int32) (ag0 : Addr) (av1 : Int32) (h0 : Heap) (n0 : Nat) (Z0 : n0 ≤ h0.size) (aw2 : Fld Z h0 o0 z_s0 "counts" "[I" (.ref ag0)) (av2 : Fld Z h0 o0 z_s0 "last" z_s5 (.ref o1)) (ap2 : Fld Z h0 o0 z_s0 "lastSlot" "I" (.int av1)) (at2 : ah1 Z h0 ag0 Cn) (am2 : n0 ≤ ag0) (et1 : ag0 ≠ o0) (hl : av1.toInt = (ah0 av1 : Int)) (hk : Cn[ah0 av1]? = some k) :
    ab3 l Z (⟨z_s0, "count", z_s9⟩ : MethodName) prog_128_method_2_code 5 (some .int) ws ({ frames := 2, cells := 0, slots := 0, locals := 28 } : Room) #[(.ref o0), (.ref o1)] h0 (fun (v : Option Value) (h : Heap) (L : List Loc) => v = some (.int (k + (1 : Int32))) ∧ Fr n0 L ∧ Keep h0 h [ag0] ∧ ah1 Z h ag0 (Cn.set (ah0 av1) (k + (1 : Int32)))) := by
  refine al3 (plainFor_of_name aa1) ?_
  intro p e s m below meth c s₁ P hx hby hml hrt hlk hown hnm hZ X0 e0 hP
  have N0 := Fr.nil n0
  have K0 := Keep.refl h0 [ag0]
  have hml' : c.maxLocals = 5 := hml
  refine ac4 (ef3 m o0 o1) ?_
  show aa0 p e below P (s₁.setTop (mkF m 0 #[.val (.ref o0), .val (.ref o1), .unset, .unset, .unset] []))
  refine ae0 X0 hx (hb hby bl2) rfl rfl ?_
  refine ae0 X0 hx (hb hby bm2) rfl rfl ?_
  refine au0 X0 hx hZ hown (host := "") (Or.inl (z_w hw 84 rfl)) Via.refl e0 av2 (hb hby bn2) (fun T1 X1 e1 => ?_)
  refine bi1 X1 hx rfl rfl (pc' := 8) (same := true) (hb hby bo2) (decide_eq_true rfl) ?_
  refine ae0 X1 hx (hb hby df7) rfl rfl ?_
  refine au0 X1 hx hZ hown (host := "") (Or.inl (z_w hw 65 rfl)) Via.refl e1 aw2 (hb hby dg7) (fun T2 X2 e2 => ?_)
  refine ae0 X2 hx (hb hby dv3) rfl rfl ?_
  refine au0 X2 hx hZ hown (host := "") (Or.inl (z_w hw 117 rfl)) Via.refl e2 ap2 (hb hby dw3) (fun T3 X3 e3 => ?_)
  refine cq7 X3 hx (hb hby dx3) rfl rfl ?_
  refine cb4 X3 hx hZ e3 at2 (j := av1) (v := k) (i := (ah0 av1)) hl hk (hb hby dy3) ?_
  refine az0 X3 hx (hb hby dz3) (z := (1 : Int32)) rfl ?_
  refine ad6 X3 hx (hb hby d4) (z := (k + (1 : Int32))) rfl ?_
  refine cz2 X3 hx (hb hby da4) ?_
  show aa0 p e below P (T3.setTop (mkF m 21 #[.val (.ref o0), .val (.ref o1), .unset, .unset, .unset] [(.int (k + (1 : Int32))), (.int av1), (.ref ag0), (.int (k + (1 : Int32)))]))
  refine bh0 X3 hx hZ e3 at2 (j := av1) (v := (k + (1 : Int32))) (i := (ah0 av1)) hl (List.getElem?_eq_some_iff.mp hk).1 (hb hby db4) (fun T4 h4 X4 e4 W4 B4 => ?_)
  have A4 : ah1 Z h4 ag0 (Cn.set (ah0 av1) (k + (1 : Int32))) := B4
  have N4 := Fr.snoc X4 N0 am2
  have K4 := Keep.wr K0 W4 (Or.inl (List.mem_of_getElem? (i := 0) rfl))
  refine ao7 X4 hx hlk hP hrt (hb hby dc4) (by decide) (by decide) ?_
  have hfin : (fun (v : Option Value) (h : Heap) (L : List Loc) => v = some (.int (k + (1 : Int32))) ∧ Fr n0 L ∧ Keep h0 h [ag0] ∧ ah1 Z h ag0 (Cn.set (ah0 av1) (k + (1 : Int32)))) (some (.int (k + (1 : Int32)))) h4 _ := ⟨rfl, N4, K4, A4⟩
  rw [e4]; exact hfin
def bg8 (N : List Value) (Cn : List Int32) (c : Int32) (q0 : Addr) (d0 : Int32) (fd : Bool) (j k : Int32) : Prop :=
  (fd = false ∧ j = ac0 c ∧ N[ah0 (ac0 c)]? = some .null) ∨
  (fd = false ∧ j = aw0 (ac0 c) ∧ N[ah0 (ac0 c)]? = some (.ref q0) ∧ (¬ d0 = c) ∧ N[ah0 (aw0 (ac0 c))]? = some .null) ∨
  (fd = true ∧ j = ac0 c ∧ N[ah0 (ac0 c)]? = some (.ref q0) ∧ d0 = c ∧ Cn[ah0 (ac0 c)]? = some k)
def ce9 (N : List Value) (Cn : List Int32) (c : Int32) (q0 : Addr) (d0 : Int32) (q1 : Addr) (d1 : Int32) (fd : Bool) (j k : Int32) : Prop :=
  (fd = false ∧ j = ac0 c ∧ N[ah0 (ac0 c)]? = some .null) ∨
  (fd = false ∧ j = aw0 (ac0 c) ∧ N[ah0 (ac0 c)]? = some (.ref q0) ∧ (¬ d0 = c) ∧ N[ah0 (aw0 (ac0 c))]? = some .null) ∨
  (fd = false ∧ j = aw0 (ac0 c) ∧ N[ah0 (ac0 c)]? = some (.ref q1) ∧ (¬ d1 = c) ∧ N[ah0 (aw0 (ac0 c))]? = some .null) ∨
  (fd = false ∧ j = aw0 (aw0 (ac0 c)) ∧ N[ah0 (ac0 c)]? = some (.ref q0) ∧ (¬ d0 = c) ∧ N[ah0 (aw0 (ac0 c))]? = some (.ref q1) ∧ (¬ d1 = c) ∧ N[ah0 (aw0 (aw0 (ac0 c)))]? = some .null) ∨
  (fd = false ∧ j = aw0 (aw0 (ac0 c)) ∧ N[ah0 (ac0 c)]? = some (.ref q1) ∧ (¬ d1 = c) ∧ N[ah0 (aw0 (ac0 c))]? = some (.ref q0) ∧ (¬ d0 = c) ∧ N[ah0 (aw0 (aw0 (ac0 c)))]? = some .null) ∨
  (fd = true ∧ j = ac0 c ∧ N[ah0 (ac0 c)]? = some (.ref q0) ∧ d0 = c ∧ Cn[ah0 (ac0 c)]? = some k) ∨
  (fd = true ∧ j = ac0 c ∧ N[ah0 (ac0 c)]? = some (.ref q1) ∧ d1 = c ∧ Cn[ah0 (ac0 c)]? = some k) ∨
  (fd = true ∧ j = aw0 (ac0 c) ∧ N[ah0 (ac0 c)]? = some (.ref q0) ∧ (¬ d0 = c) ∧ N[ah0 (aw0 (ac0 c))]? = some (.ref q1) ∧ d1 = c ∧ Cn[ah0 (aw0 (ac0 c))]? = some k)
abbrev bp6 : List Value := List.replicate 16 Value.null
abbrev ea5 : List Int32 := List.replicate 16 (0 : Int32)
theorem cd1 {A i : Nat} (hA : A < 16) (hi : i < 16) (x : Value) : (bp6.set A x)[i]? = some (if A = i then x else .null) := by
  rw [List.getElem?_set]
  by_cases h : A = i
  · subst h; simp [hA]
  · simp [h, hi, List.getElem?_replicate]
theorem dz4 {A B i : Nat} (hA : A < 16) (hB : B < 16) (hi : i < 16) (x y : Value) : ((bp6.set A x).set B y)[i]? = some (if B = i then y else if A = i then x else .null) := by
  rw [List.getElem?_set]
  by_cases h : B = i
  · subst h; simp [hB]
  · rw [if_neg h, if_neg h]; exact cd1 hA hi x
theorem ch0 (c : Int32) : bp6[ah0 (ac0 c)]? = some Value.null := by simp [List.getElem?_replicate, a5]
theorem ch8 {N : List Value} {Cn : List Int32} {c : Int32} {q0 : Addr} {d0 : Int32} {fd : Bool} {j k : Int32} (h : bg8 N Cn c q0 d0 fd j k) : j.toInt = (ah0 j : Int) ∧ ah0 j < 16 := by
  rcases h with ⟨-, rfl, -⟩ | ⟨-, rfl, -⟩ | ⟨-, rfl, -⟩
  · exact cf0 _
  · exact cf0 _
  · exact cf0 _
/-- the second name (or the third, where the second was the first one again) over a table that holds one -/
theorem cd4 (sa : Addr) (da dc k : Int32) (Cn : List Int32) (hk : Cn[ah0 (ac0 da)]? = some k) : ∃ j, bg8 (ap4 false bp6 (ah0 (ac0 da)) sa) Cn dc sa da (decide (da = dc)) j k := by
  by_cases h : da = dc
  · subst h
    refine ⟨ac0 da, Or.inr (Or.inr ⟨by simp, rfl, ?_, rfl, hk⟩)⟩
    exact (cd1 (a5 _) (a5 _) _).trans (by simp)
  · by_cases g : ah0 (ac0 da) = ah0 (ac0 dc)
    · refine ⟨aw0 (ac0 dc), Or.inr (Or.inl ⟨by simp [h], rfl, ?_, h, ?_⟩)⟩
      · exact (cd1 (a5 _) (a5 _) _).trans (by simp [g])
      · refine (cd1 (a5 _) (be5 _) _).trans ?_
        have := ca9 dc
        have := a5 dc
        rw [if_neg (by omega)]
    · exact ⟨ac0 dc, Or.inl ⟨by simp [h], rfl, (cd1 (a5 _) (a5 _) _).trans (by simp [g])⟩⟩
/-- the table after two names: one entry that counts 2, or two that count 1 -/
theorem d5 {sa sb : Addr} {da db j : Int32} {fd : Bool} {Cn : List Int32} (hl : Cn.length = 16) (h1 : Cn[ah0 (ac0 da)]? = some 1) (h : bg8 (ap4 false bp6 (ah0 (ac0 da)) sa) Cn db sa da fd j 1) :
    (da = db ∧ fd = true ∧ j = ac0 da ∧ (∀ i, i < 16 → (ap4 fd (ap4 false bp6 (ah0 (ac0 da)) sa) (ah0 j) sb)[i]? = some (if ah0 (ac0 da) = i then .ref sa else .null)) ∧ (ai3 fd Cn (ah0 j) 1)[ah0 (ac0 da)]? = some 2) ∨
    (¬ da = db ∧ fd = false ∧ ah0 j < 16 ∧ ¬ ah0 (ac0 da) = ah0 j ∧ (ah0 j = ah0 (ac0 db) ∨ (ah0 (ac0 da) = ah0 (ac0 db) ∧ ah0 j = (ah0 (ac0 da) + 1) % 16)) ∧
      (∀ i, i < 16 → (ap4 fd (ap4 false bp6 (ah0 (ac0 da)) sa) (ah0 j) sb)[i]? = some (if ah0 j = i then .ref sb else if ah0 (ac0 da) = i then .ref sa else .null)) ∧ (ai3 fd Cn (ah0 j) 1)[ah0 (ac0 da)]? = some 1 ∧ (ai3 fd Cn (ah0 j) 1)[ah0 j]? = some 1) := by
  have hc : ∀ {i : Nat}, i < 16 → ¬ ah0 (ac0 da) = i → (ai3 false Cn i 1)[ah0 (ac0 da)]? = some 1 ∧ (ai3 false Cn i 1)[i]? = some 1 := by
    intro i hi hne
    refine ⟨?_, ?_⟩
    · show (Cn.set i 1)[ah0 (ac0 da)]? = some 1
      rw [List.getElem?_set, if_neg (fun q => hne q.symm)]; exact h1
    · show (Cn.set i 1)[i]? = some 1
      rw [List.getElem?_set, if_pos rfl, if_pos (by rw [hl]; exact hi)]
  rcases h with ⟨rfl, rfl, e⟩ | ⟨rfl, rfl, e, hne, e2⟩ | ⟨rfl, rfl, e, he, ek⟩
  · have e' := (cd1 (a5 da) (a5 db) (.ref sa)).symm.trans e
    have hAB : ¬ ah0 (ac0 da) = ah0 (ac0 db) := fun q => by rw [if_pos q] at e'; cases e'
    refine Or.inr ⟨fun q => hAB (by rw [q]), rfl, a5 _, hAB, Or.inl rfl, fun i hi => dz4 (a5 _) (a5 _) hi _ _, hc (a5 _) hAB⟩
  · have e' := (cd1 (a5 da) (a5 db) (.ref sa)).symm.trans e
    have hAB : ah0 (ac0 da) = ah0 (ac0 db) := Classical.byContradiction fun q => by rw [if_neg q] at e'; cases e'
    have hn := ca9 db
    have hlt := a5 db
    have hN : ¬ ah0 (ac0 da) = ah0 (aw0 (ac0 db)) := by omega
    refine Or.inr ⟨hne, rfl, be5 _, hN, Or.inr ⟨hAB, by omega⟩, fun i hi => dz4 (a5 _) (be5 _) hi _ _, hc (be5 _) hN⟩
  · subst he
    refine Or.inl ⟨rfl, rfl, rfl, fun i hi => cd1 (a5 _) hi _, ?_⟩
    show (Cn.set (ah0 (ac0 da)) (1 + 1))[ah0 (ac0 da)]? = some 2
    rw [List.getElem?_set, if_pos rfl, if_pos (by rw [hl]; exact a5 _)]; rfl
theorem eg3 {sa sb : Addr} {da db j : Int32} {fd : Bool} {Cn : List Int32} (dc : Int32) (hl : Cn.length = 16) (h1 : Cn[ah0 (ac0 da)]? = some 1) (h : bg8 (ap4 false bp6 (ah0 (ac0 da)) sa) Cn db sa da fd j 1) :
    ∃ j' k', ce9 (ap4 fd (ap4 false bp6 (ah0 (ac0 da)) sa) (ah0 j) sb) (ai3 fd Cn (ah0 j) 1) dc sa da sb db (decide (da = dc ∨ db = dc)) j' k' ∧ ((da = dc ∨ db = dc) → k' = if da = dc ∧ db = dc then 2 else 1) := by
  have hC := a5 dc
  have hn1 := ca9 dc
  have hn2 := ep4 (ac0 dc)
  have hCn := be5 (ac0 dc)
  have hCnn := be5 (aw0 (ac0 dc))
  rcases d5 (sb := sb) hl h1 h with ⟨rfl, -, -, hN, hk⟩ | ⟨hab, -, hB, hAB, hpos, hN, hkA, hkB⟩
  · by_cases hac : da = dc
    · subst hac
      exact ⟨ac0 da, 2, Or.inr (Or.inr (Or.inr (Or.inr (Or.inr (Or.inl ⟨by simp, rfl, (hN _ hC).trans (by simp), rfl, hk⟩))))), fun _ => by simp⟩
    · by_cases g : ah0 (ac0 da) = ah0 (ac0 dc)
      · refine ⟨aw0 (ac0 dc), 0, Or.inr (Or.inl ⟨by simp [hac], rfl, (hN _ hC).trans (by simp [g]), hac, ?_⟩), fun q => by simp [hac] at q⟩
        exact (hN _ hCn).trans (by rw [if_neg (by omega)])
      · exact ⟨ac0 dc, 0, Or.inl ⟨by simp [hac], rfl, (hN _ hC).trans (by simp [g])⟩, fun q => by simp [hac] at q⟩
  · by_cases hac : da = dc
    · subst hac
      refine ⟨ac0 da, 1, Or.inr (Or.inr (Or.inr (Or.inr (Or.inr (Or.inl ⟨by simp, rfl, (hN _ hC).trans ?_, rfl, hkA⟩))))), fun _ => by rw [if_neg (fun q => hab q.2.symm)]⟩
      rw [if_neg (fun q => hAB q.symm), if_pos rfl]
    · by_cases hbc : db = dc
      · subst hbc
        by_cases g : ah0 j = ah0 (ac0 db)
        · refine ⟨ac0 db, 1, Or.inr (Or.inr (Or.inr (Or.inr (Or.inr (Or.inr (Or.inl ⟨by simp, rfl, (hN _ hC).trans (by rw [if_pos g]), rfl, by rw [← g]; exact hkB⟩)))))), fun _ => by simp [hab]⟩
        · obtain ⟨g1, g2⟩ := hpos.resolve_left g
          have g3 : ah0 (aw0 (ac0 db)) = ah0 j := by omega
          refine ⟨aw0 (ac0 db), 1, Or.inr (Or.inr (Or.inr (Or.inr (Or.inr (Or.inr (Or.inr ⟨by simp, rfl, (hN _ hC).trans (by rw [if_neg g, if_pos g1]), hab, (hN _ hCn).trans (by rw [if_pos g3.symm]), rfl, by rw [g3]; exact hkB⟩)))))), fun _ => by simp [hab]⟩
      · have hd : decide (da = dc ∨ db = dc) = false := by simp [hac, hbc]
        have hz : (da = dc ∨ db = dc) → (0 : Int32) = if da = dc ∧ db = dc then 2 else 1 := fun q => by simp [hac, hbc] at q
        by_cases gA : ah0 (ac0 da) = ah0 (ac0 dc)
        · have e0 := (hN _ hC).trans (by rw [if_neg (by omega), if_pos gA] : _ = some (Value.ref sa))
          by_cases gB : ah0 j = ah0 (aw0 (ac0 dc))
          · refine ⟨_, 0, Or.inr (Or.inr (Or.inr (Or.inl ⟨hd, rfl, e0, hac, (hN _ hCn).trans (by rw [if_pos gB]), hbc, ?_⟩))), hz⟩
            exact (hN _ hCnn).trans (by rw [if_neg (by omega), if_neg (by omega)])
          · refine ⟨_, 0, Or.inr (Or.inl ⟨hd, rfl, e0, hac, ?_⟩), hz⟩
            exact (hN _ hCn).trans (by rw [if_neg gB, if_neg (by omega)])
        · by_cases gB : ah0 j = ah0 (ac0 dc)
          · have e0 := (hN _ hC).trans (by rw [if_pos gB] : _ = some (Value.ref sb))
            by_cases gC : ah0 (ac0 da) = ah0 (aw0 (ac0 dc))
            · refine ⟨_, 0, Or.inr (Or.inr (Or.inr (Or.inr (Or.inl ⟨hd, rfl, e0, hbc, (hN _ hCn).trans (by rw [if_neg (by omega), if_pos gC]), hac, ?_⟩)))), hz⟩
              exact (hN _ hCnn).trans (by rw [if_neg (by omega), if_neg (by omega)])
            · refine ⟨_, 0, Or.inr (Or.inr (Or.inl ⟨hd, rfl, e0, hbc, ?_⟩)), hz⟩
              exact (hN _ hCn).trans (by rw [if_neg (by omega), if_neg gC])
          · exact ⟨_, 0, Or.inl ⟨hd, rfl, (hN _ hC).trans (by rw [if_neg gB, if_neg gA])⟩, hz⟩
theorem ew0 {sa sb : Addr} {da db j : Int32} {fd : Bool} {Cn : List Int32} (hl : Cn.length = 16) (h1 : Cn[ah0 (ac0 da)]? = some 1) (h : bg8 (ap4 false bp6 (ah0 (ac0 da)) sa) Cn db sa da fd j 1) :
    (ap4 fd (ap4 false bp6 (ah0 (ac0 da)) sa) (ah0 j) sb)[ah0 (ac0 da)]? = some (.ref sa) ∧ (ai3 fd Cn (ah0 j) 1)[ah0 (ac0 da)]? = some (if da = db then (2 : Int32) else (1 : Int32)) := by
  rcases d5 (sb := sb) hl h1 h with ⟨he, -, -, hN, hk⟩ | ⟨hab, -, hB, hAB, hpos, hN, hkA, hkB⟩
  · exact ⟨(hN _ (a5 _)).trans (by rw [if_pos rfl]), hk.trans (by rw [if_pos he])⟩
  · exact ⟨(hN _ (a5 _)).trans (by rw [if_neg (fun q => hAB q.symm), if_pos rfl]), hkA.trans (by rw [if_neg hab])⟩
theorem cp2 {l : List Int32} {i : Nat} {x : Int32} (h : i < l.length) : (l.set i x)[i]? = some x := by rw [List.getElem?_set, if_pos rfl, if_pos h]
theorem ex0 {N : List Value} {Cn : List Int32} {c : Int32} {q0 : Addr} {d0 : Int32} {fd : Bool} {j k : Int32} (hl : Cn.length = 16) (h : bg8 N Cn c q0 d0 fd j k) : (ai3 fd Cn (ah0 j) k)[ah0 j]? = some (ax0 fd k) := cp2 (by rw [hl]; exact (ch8 h).2)
theorem ap3 (fd : Bool) (N : List Value) (i : Nat) (s : Addr) : (ap4 fd N i s).length = N.length := by cases fd <;> simp [ap4]
theorem ae3 (fd : Bool) (N : List Int32) (i : Nat) (s : Int32) : (ai3 fd N i s).length = N.length := by simp [ai3]
theorem aq3 (fd : Bool) (N : List Int32) (i : Nat) (s : Int32) : (ap6 fd N i s).length = N.length := by cases fd <;> simp [ap6]
theorem ce4 : bg0 (ac5 false (0 : Int32)) := Or.inr (Or.inl rfl)
theorem eh3 (fd : Bool) : bg0 (ac5 fd (ac5 false (0 : Int32))) := by cases fd; exact Or.inr (Or.inr rfl); exact Or.inr (Or.inl rfl)
theorem bs4 (c : Int32) : (ai3 false ea5 (ah0 (ac0 c)) (0 : Int32))[ah0 (ac0 c)]? = some (1 : Int32) := cp2 (by rw [List.length_replicate]; exact a5 c)
def bu0 (x : Int32) : Prop := ∃ n : Fin 256, x = Int32.ofNat n.val
theorem dh7 (x : Int32) : ∃ n : Fin 256, x &&& (255 : Int32) = Int32.ofNat n.val := by
  refine ⟨⟨x.toBitVec.toNat % 256, Nat.mod_lt _ (by decide)⟩, ?_⟩
  rw [← Int32.toBitVec_inj]
  apply BitVec.eq_of_toNat_eq
  show (x.toBitVec &&& 255#32).toNat = (BitVec.ofNat 32 (x.toBitVec.toNat % 256)).toNat
  rw [BitVec.toNat_and, BitVec.toNat_ofNat, BitVec.toNat_ofNat, show 255 % 2 ^ 32 = 2 ^ 8 - 1 from rfl, Nat.and_two_pow_sub_one_eq_mod]
  omega
theorem ej3 : ∀ n : Fin 256, (Int32.ofNat n.val).toUInt32.toUInt16.toUInt32.toInt32 = Int32.ofNat n.val := by decide +kernel
theorem cn5 (x : Int32) : bu0 ((x &&& (255 : Int32)).toUInt32.toUInt16.toUInt32.toInt32) := by
  obtain ⟨n, e⟩ := dh7 x
  exact ⟨n, by rw [e, ej3 n]⟩
theorem ey0 : ∀ n : Fin 256, ¬ ((255 : Int32) < Int32.ofNat n.val) := by decide +kernel
theorem bp3 {x : Int32} (h : bu0 x) : ¬ ((255 : Int32) < x) := by obtain ⟨n, rfl⟩ := h; exact ey0 n
def aa6 (x : Int32) : Int32 := nar .byte (x.toInt8.toInt32)
theorem da5 : ∀ n : Fin 256, aa6 (Int32.ofNat n.val) &&& (255 : Int32) = Int32.ofNat n.val := by decide +kernel
theorem ci0 {x y : Int32} (hx : bu0 x) (hy : bu0 y) : aa6 x = aa6 y ↔ x = y := by
  refine ⟨fun q => ?_, fun q => by rw [q]⟩
  obtain ⟨n, rfl⟩ := hx
  obtain ⟨k, rfl⟩ := hy
  rw [← da5 n, ← da5 k, q]
theorem ez0 {a b c : Int32} (h1 : b = a) (h2 : c = b) : (3 : Int32) = ((1 : Int32) + if a = c then 1 else 0) + if b = c then 1 else 0 := by subst h2; subst h1; simp
theorem ea1 {a b c : Int32} (h1 : b = a) (h2 : c = a) : (3 : Int32) = ((1 : Int32) + if a = c then 1 else 0) + if b = c then 1 else 0 := by subst h2; subst h1; simp
theorem eb1 {a b c : Int32} (ha : bu0 a) (hc : bu0 c) (h1 : b = a) : ax0 (decide (aa6 a = aa6 c)) (2 : Int32) = ((1 : Int32) + if a = c then 1 else 0) + if b = c then 1 else 0 := by
  subst h1
  by_cases h : b = c
  · subst h; simp [ax0]
  · have : ¬ aa6 b = aa6 c := fun q => h ((ci0 ha hc).mp q)
    simp [h, this, ax0]
theorem ec1 {a b c : Int32} (ha : bu0 a) (hb : bu0 b) (h1 : c = b) : ax0 (decide (aa6 a = aa6 b)) (1 : Int32) + (1 : Int32) = ((1 : Int32) + if a = c then 1 else 0) + if b = c then 1 else 0 := by
  subst h1
  by_cases h : a = c
  · subst h; simp [ax0]
  · have : ¬ aa6 a = aa6 c := fun q => h ((ci0 ha hb).mp q)
    simp [h, this, ax0]
theorem ed1 {a b c : Int32} (ha : bu0 a) (hb : bu0 b) (h1 : c = a) : ax0 true (if aa6 a = aa6 b then (2 : Int32) else (1 : Int32)) = ((1 : Int32) + if a = c then 1 else 0) + if b = c then 1 else 0 := by
  subst h1
  by_cases h : c = b
  · subst h; simp [ax0]
  · have : ¬ aa6 c = aa6 b := fun q => h ((ci0 ha hb).mp q)
    have h' : ¬ b = c := fun q => h q.symm
    simp [h', this, ax0]
theorem ee1 {a b c k : Int32} (ha : bu0 a) (hb : bu0 b) (hc : bu0 c) (hk : (aa6 a = aa6 c ∨ aa6 b = aa6 c) → k = if aa6 a = aa6 c ∧ aa6 b = aa6 c then 2 else 1) : ax0 (decide (aa6 a = aa6 c ∨ aa6 b = aa6 c)) k = ((1 : Int32) + if a = c then 1 else 0) + if b = c then 1 else 0 := by
  simp only [ci0 ha hc, ci0 hb hc] at hk
  have e : decide (aa6 a = aa6 c ∨ aa6 b = aa6 c) = decide (a = c ∨ b = c) := by simp only [ci0 ha hc, ci0 hb hc]
  rw [e]
  by_cases h1 : a = c <;> by_cases h2 : b = c <;> simp [h1, h2] at hk ⊢ <;> simp [hk, ax0]
set_option maxRecDepth 65536 in
set_option maxHeartbeats 40000000 in
theorem ek3 (l : Launch) (Z : State) (a0 : Array Value) (hw : ∀ d ∈ tables_1, d.before a0 Z = true) (ws : List Jvm.Cond) (o0 : Addr) (o1 : Addr) (c0 : Int32) (N : List Value) (Cn : List Int32) (U : List Int32) (k : Int32) (fd : Bool) (j : Int32) (q0 : Addr) (d0 : Int32) (aj0 : Addr) (ag0 : Addr) (an0 : Addr) (ag1 : Int32) (av1 : Int32) (am0 : Addr) (af1 : Addr) (ab0 : Int32) (h0 : Heap) (n0 : Nat) (Z0 : n0 ≤ h0.size) (E_o0 : Exa Z h0 o0 z_s0) (E_o1 : Exa Z h0 o1 z_s2) (E_q0 : Exa Z h0 q0 z_s2) (ar2 : Fld Z h0 o0 z_s0 "names" z_s8 (.ref aj0)) (aw2 : Fld Z h0 o0 z_s0 "counts" "[I" (.ref ag0)) (ah4 : Fld Z h0 o0 z_s0 "used" "[I" (.ref an0)) (af3 : Fld Z h0 o0 z_s0 "size" "I" (.int ag1)) (av2 : Fld Z h0 o0 z_s0 "last" z_s5 (.ref q0)) (ap2 : Fld Z h0 o0 z_s0 "lastSlot" "I" (.int av1)) (ag3 : Fld Z h0 o1 z_s2 "value" "[B" (.ref am0)) (ah3 : Fld Z h0 o1 z_s2 "coder" "B" (.int (0 : Int32))) (an3 : Fld Z h0 o1 z_s2 "hash" "I" (.int (0 : Int32))) (aa2 : Fld Z h0 o1 z_s2 "hashIsZero" "Z" (.int (0 : Int32))) (aj5 : Fld Z h0 q0 z_s2 "value" "[B" (.ref af1)) (ak5 : Fld Z h0 q0 z_s2 "coder" "B" (.int (0 : Int32))) (ar0 : Sta Z h0 z_s2 "COMPACT_STRINGS" "Z" (.int ab0)) (an2 : (ac2 z_s2) Z h0 aj0 N) (at2 : ah1 Z h0 ag0 Cn) (aj4 : ah1 Z h0 an0 U) (aj2 : ax2 Z h0 am0 [c0]) (aq4 : ax2 Z h0 af1 [d0]) (ah2 : n0 ≤ o0) (am3 : n0 ≤ aj0) (am2 : n0 ≤ ag0) (ax3 : n0 ≤ an0) (ae6 : n0 ≤ o1) (at0 : o0 ≠ aj0) (ao0 : o0 ≠ ag0) (ay0 : o0 ≠ an0) (ap0 : o0 ≠ o1) (aj1 : aj0 ≠ ag0) (aq1 : aj0 ≠ an0) (ao1 : aj0 ≠ o1) (al1 : ag0 ≠ an0) (ab1 : ag0 ≠ o1) (as1 : an0 ≠ o1) (az2 : o0 ≠ am0) (aw9 : o0 ≠ q0) (av4 : o0 ≠ af1) (ak2 : aj0 ≠ am0) (am5 : aj0 ≠ q0) (ao3 : aj0 ≠ af1) (ag2 : ag0 ≠ am0) (ae5 : ag0 ≠ q0) (ak3 : ag0 ≠ af1) (al2 : an0 ≠ am0) (at5 : an0 ≠ q0) (ay3 : an0 ≠ af1) (ae2 : o1 ≠ am0) (ad4 : o1 ≠ q0) (ad3 : o1 ≠ af1) (hnz : ¬ (ab0 = (0 : Int32))) (hN : N.length = 16) (hCn : Cn.length = 16) (hU : U.length = 16) (hz : bg0 ag1) (hpr : bg8 N Cn c0 q0 d0 fd j k) :
    ab3 l Z (⟨z_s0, "count", z_s9⟩ : MethodName) prog_128_method_2_code 5 (some .int) ws ({ frames := 2, cells := 0, slots := 0, locals := 28 } : Room) #[(.ref o0), (.ref o1)] h0 (fun (v : Option Value) (h : Heap) (L : List Loc) => v = some (.int (ax0 fd k)) ∧ Fr n0 L ∧ Keep h0 h [o0, aj0, ag0, an0, o1] ∧ Exa Z h o0 z_s0 ∧ Fld Z h o0 z_s0 "names" z_s8 (.ref aj0) ∧ Fld Z h o0 z_s0 "counts" "[I" (.ref ag0) ∧ Fld Z h o0 z_s0 "used" "[I" (.ref an0) ∧ Fld Z h o0 z_s0 "size" "I" (.int (ac5 fd ag1)) ∧ Fld Z h o0 z_s0 "last" z_s5 (.ref o1) ∧ Fld Z h o0 z_s0 "lastSlot" "I" (.int j) ∧ (ac2 z_s2) Z h aj0 (ap4 fd N (ah0 j) o1) ∧ ah1 Z h ag0 (ai3 fd Cn (ah0 j) k) ∧ ah1 Z h an0 (ap6 fd U (ah0 ag1) j) ∧ Exa Z h o1 z_s2 ∧ Fld Z h o1 z_s2 "value" "[B" (.ref am0) ∧ Fld Z h o1 z_s2 "coder" "B" (.int (0 : Int32)) ∧ Fld Z h o1 z_s2 "hash" "I" (.int (ak1 c0)) ∧ Fld Z h o1 z_s2 "hashIsZero" "Z" (.int (aj6 (ak1 c0)))) := by
  rcases hpr with ⟨rfl, rfl, e1⟩ | ⟨rfl, rfl, e1, e2, e3⟩ | ⟨rfl, rfl, e1, e2, e3⟩
  · exact dy4 l Z a0 hw ws o0 o1 c0 N Cn U k q0 aj0 ag0 an0 ag1 av1 am0 ab0 h0 n0 Z0 E_o0 E_o1 ar2 aw2 ah4 af3 av2 ap2 ag3 ah3 an3 aa2 ar0 an2 at2 aj4 aj2 ah2 am3 am2 ax3 ae6 at0 ao0 ay0 ap0 aj1 aq1 ao1 al1 ab1 as1 az2 ak2 ag2 al2 ae2 ad4 hnz hN hCn hU hz e1
  · exact cc9 l Z a0 hw ws o0 o1 c0 N Cn U k q0 q0 d0 aj0 ag0 an0 ag1 av1 am0 af1 ab0 h0 n0 Z0 E_o0 E_o1 E_q0 ar2 aw2 ah4 af3 av2 ap2 ag3 ah3 an3 aa2 aj5 ak5 ar0 an2 at2 aj4 aj2 aq4 ah2 am3 am2 ax3 ae6 at0 ao0 ay0 ap0 aj1 aq1 ao1 al1 ab1 as1 az2 aw9 av4 ak2 am5 ao3 ag2 ae5 ak3 al2 at5 ay3 ae2 ad4 ad3 ad4 hnz hN hCn hU hz e1 e2 e3
  · exact cd9 l Z a0 hw ws o0 o1 c0 N Cn U k q0 q0 d0 aj0 ag0 an0 ag1 av1 am0 af1 ab0 h0 n0 Z0 E_o0 E_o1 E_q0 ar2 aw2 ah4 af3 av2 ap2 ag3 ah3 an3 aa2 aj5 ak5 ar0 an2 at2 aj4 aj2 aq4 ah2 am3 am2 ax3 ae6 at0 ao0 ay0 ap0 aj1 aq1 ao1 al1 ab1 as1 az2 aw9 av4 ak2 am5 ao3 ag2 ae5 ak3 al2 at5 ay3 ae2 ad4 ad3 ad4 hnz hN hCn hU hz e1 e2 e3
set_option maxRecDepth 65536 in
set_option maxHeartbeats 40000000 in
theorem el3 (l : Launch) (Z : State) (a0 : Array Value) (hw : ∀ d ∈ tables_1, d.before a0 Z = true) (ws : List Jvm.Cond) (o0 : Addr) (o1 : Addr) (c0 : Int32) (N : List Value) (Cn : List Int32) (U : List Int32) (k : Int32) (fd : Bool) (j : Int32) (q0 : Addr) (d0 : Int32) (q1 : Addr) (d1 : Int32) (aj0 : Addr) (ag0 : Addr) (an0 : Addr) (ag1 : Int32) (av1 : Int32) (am0 : Addr) (af1 : Addr) (ao2 : Addr) (ab0 : Int32) (h0 : Heap) (n0 : Nat) (Z0 : n0 ≤ h0.size) (E_o0 : Exa Z h0 o0 z_s0) (E_o1 : Exa Z h0 o1 z_s2) (E_q0 : Exa Z h0 q0 z_s2) (E_q1 : Exa Z h0 q1 z_s2) (ar2 : Fld Z h0 o0 z_s0 "names" z_s8 (.ref aj0)) (aw2 : Fld Z h0 o0 z_s0 "counts" "[I" (.ref ag0)) (ah4 : Fld Z h0 o0 z_s0 "used" "[I" (.ref an0)) (af3 : Fld Z h0 o0 z_s0 "size" "I" (.int ag1)) (av2 : Fld Z h0 o0 z_s0 "last" z_s5 (.ref q1)) (ap2 : Fld Z h0 o0 z_s0 "lastSlot" "I" (.int av1)) (ag3 : Fld Z h0 o1 z_s2 "value" "[B" (.ref am0)) (ah3 : Fld Z h0 o1 z_s2 "coder" "B" (.int (0 : Int32))) (an3 : Fld Z h0 o1 z_s2 "hash" "I" (.int (0 : Int32))) (aa2 : Fld Z h0 o1 z_s2 "hashIsZero" "Z" (.int (0 : Int32))) (aj5 : Fld Z h0 q0 z_s2 "value" "[B" (.ref af1)) (ak5 : Fld Z h0 q0 z_s2 "coder" "B" (.int (0 : Int32))) (au9 : Fld Z h0 q1 z_s2 "value" "[B" (.ref ao2)) (av9 : Fld Z h0 q1 z_s2 "coder" "B" (.int (0 : Int32))) (ar0 : Sta Z h0 z_s2 "COMPACT_STRINGS" "Z" (.int ab0)) (an2 : (ac2 z_s2) Z h0 aj0 N) (at2 : ah1 Z h0 ag0 Cn) (aj4 : ah1 Z h0 an0 U) (aj2 : ax2 Z h0 am0 [c0]) (aq4 : ax2 Z h0 af1 [d0]) (a8 : ax2 Z h0 ao2 [d1]) (ah2 : n0 ≤ o0) (am3 : n0 ≤ aj0) (am2 : n0 ≤ ag0) (ax3 : n0 ≤ an0) (ae6 : n0 ≤ o1) (at0 : o0 ≠ aj0) (ao0 : o0 ≠ ag0) (ay0 : o0 ≠ an0) (ap0 : o0 ≠ o1) (aj1 : aj0 ≠ ag0) (aq1 : aj0 ≠ an0) (ao1 : aj0 ≠ o1) (al1 : ag0 ≠ an0) (ab1 : ag0 ≠ o1) (as1 : an0 ≠ o1) (az2 : o0 ≠ am0) (aw9 : o0 ≠ q0) (av4 : o0 ≠ af1) (bo6 : o0 ≠ q1) (aa8 : o0 ≠ ao2) (ak2 : aj0 ≠ am0) (am5 : aj0 ≠ q0) (ao3 : aj0 ≠ af1) (am9 : aj0 ≠ q1) (ay5 : aj0 ≠ ao2) (ag2 : ag0 ≠ am0) (ae5 : ag0 ≠ q0) (ak3 : ag0 ≠ af1) (at8 : ag0 ≠ q1) (ao5 : ag0 ≠ ao2) (al2 : an0 ≠ am0) (at5 : an0 ≠ q0) (ay3 : an0 ≠ af1) (ax9 : an0 ≠ q1) (ag6 : an0 ≠ ao2) (ae2 : o1 ≠ am0) (ad4 : o1 ≠ q0) (ad3 : o1 ≠ af1) (an5 : o1 ≠ q1) (az5 : o1 ≠ ao2) (hnz : ¬ (ab0 = (0 : Int32))) (hN : N.length = 16) (hCn : Cn.length = 16) (hU : U.length = 16) (hz : bg0 ag1) (hpr : ce9 N Cn c0 q0 d0 q1 d1 fd j k) :
    ab3 l Z (⟨z_s0, "count", z_s9⟩ : MethodName) prog_128_method_2_code 5 (some .int) ws ({ frames := 2, cells := 0, slots := 0, locals := 28 } : Room) #[(.ref o0), (.ref o1)] h0 (fun (v : Option Value) (h : Heap) (L : List Loc) => v = some (.int (ax0 fd k)) ∧ Fr n0 L ∧ Keep h0 h [o0, aj0, ag0, an0, o1] ∧ Exa Z h o0 z_s0 ∧ Fld Z h o0 z_s0 "names" z_s8 (.ref aj0) ∧ Fld Z h o0 z_s0 "counts" "[I" (.ref ag0) ∧ Fld Z h o0 z_s0 "used" "[I" (.ref an0) ∧ Fld Z h o0 z_s0 "size" "I" (.int (ac5 fd ag1)) ∧ Fld Z h o0 z_s0 "last" z_s5 (.ref o1) ∧ Fld Z h o0 z_s0 "lastSlot" "I" (.int j) ∧ (ac2 z_s2) Z h aj0 (ap4 fd N (ah0 j) o1) ∧ ah1 Z h ag0 (ai3 fd Cn (ah0 j) k) ∧ ah1 Z h an0 (ap6 fd U (ah0 ag1) j) ∧ Exa Z h o1 z_s2 ∧ Fld Z h o1 z_s2 "value" "[B" (.ref am0) ∧ Fld Z h o1 z_s2 "coder" "B" (.int (0 : Int32)) ∧ Fld Z h o1 z_s2 "hash" "I" (.int (ak1 c0)) ∧ Fld Z h o1 z_s2 "hashIsZero" "Z" (.int (aj6 (ak1 c0)))) := by
  rcases hpr with ⟨rfl, rfl, e1⟩ | ⟨rfl, rfl, e1, e2, e3⟩ | ⟨rfl, rfl, e1, e2, e3⟩ | ⟨rfl, rfl, e1, e2, e3, e4, e5⟩ | ⟨rfl, rfl, e1, e2, e3, e4, e5⟩ | ⟨rfl, rfl, e1, e2, e3⟩ | ⟨rfl, rfl, e1, e2, e3⟩ | ⟨rfl, rfl, e1, e2, e3, e4, e5⟩
  · exact dy4 l Z a0 hw ws o0 o1 c0 N Cn U k q1 aj0 ag0 an0 ag1 av1 am0 ab0 h0 n0 Z0 E_o0 E_o1 ar2 aw2 ah4 af3 av2 ap2 ag3 ah3 an3 aa2 ar0 an2 at2 aj4 aj2 ah2 am3 am2 ax3 ae6 at0 ao0 ay0 ap0 aj1 aq1 ao1 al1 ab1 as1 az2 ak2 ag2 al2 ae2 an5 hnz hN hCn hU hz e1
  · exact cc9 l Z a0 hw ws o0 o1 c0 N Cn U k q1 q0 d0 aj0 ag0 an0 ag1 av1 am0 af1 ab0 h0 n0 Z0 E_o0 E_o1 E_q0 ar2 aw2 ah4 af3 av2 ap2 ag3 ah3 an3 aa2 aj5 ak5 ar0 an2 at2 aj4 aj2 aq4 ah2 am3 am2 ax3 ae6 at0 ao0 ay0 ap0 aj1 aq1 ao1 al1 ab1 as1 az2 aw9 av4 ak2 am5 ao3 ag2 ae5 ak3 al2 at5 ay3 ae2 ad4 ad3 an5 hnz hN hCn hU hz e1 e2 e3
  · exact cc9 l Z a0 hw ws o0 o1 c0 N Cn U k q1 q1 d1 aj0 ag0 an0 ag1 av1 am0 ao2 ab0 h0 n0 Z0 E_o0 E_o1 E_q1 ar2 aw2 ah4 af3 av2 ap2 ag3 ah3 an3 aa2 au9 av9 ar0 an2 at2 aj4 aj2 a8 ah2 am3 am2 ax3 ae6 at0 ao0 ay0 ap0 aj1 aq1 ao1 al1 ab1 as1 az2 bo6 aa8 ak2 am9 ay5 ag2 at8 ao5 al2 ax9 ag6 ae2 an5 az5 an5 hnz hN hCn hU hz e1 e2 e3
  · exact dx4 l Z a0 hw ws o0 o1 c0 N Cn U k q1 q0 d0 q1 d1 aj0 ag0 an0 ag1 av1 am0 af1 ao2 ab0 h0 n0 Z0 E_o0 E_o1 E_q0 E_q1 ar2 aw2 ah4 af3 av2 ap2 ag3 ah3 an3 aa2 aj5 ak5 au9 av9 ar0 an2 at2 aj4 aj2 aq4 a8 ah2 am3 am2 ax3 ae6 at0 ao0 ay0 ap0 aj1 aq1 ao1 al1 ab1 as1 az2 aw9 av4 bo6 aa8 ak2 am5 ao3 am9 ay5 ag2 ae5 ak3 at8 ao5 al2 at5 ay3 ax9 ag6 ae2 ad4 ad3 an5 az5 an5 hnz hN hCn hU hz e1 e2 e3 e4 e5
  · exact dx4 l Z a0 hw ws o0 o1 c0 N Cn U k q1 q1 d1 q0 d0 aj0 ag0 an0 ag1 av1 am0 ao2 af1 ab0 h0 n0 Z0 E_o0 E_o1 E_q1 E_q0 ar2 aw2 ah4 af3 av2 ap2 ag3 ah3 an3 aa2 au9 av9 aj5 ak5 ar0 an2 at2 aj4 aj2 a8 aq4 ah2 am3 am2 ax3 ae6 at0 ao0 ay0 ap0 aj1 aq1 ao1 al1 ab1 as1 az2 bo6 aa8 aw9 av4 ak2 am9 ay5 am5 ao3 ag2 at8 ao5 ae5 ak3 al2 ax9 ag6 at5 ay3 ae2 an5 az5 ad4 ad3 an5 hnz hN hCn hU hz e1 e2 e3 e4 e5
  · exact cd9 l Z a0 hw ws o0 o1 c0 N Cn U k q1 q0 d0 aj0 ag0 an0 ag1 av1 am0 af1 ab0 h0 n0 Z0 E_o0 E_o1 E_q0 ar2 aw2 ah4 af3 av2 ap2 ag3 ah3 an3 aa2 aj5 ak5 ar0 an2 at2 aj4 aj2 aq4 ah2 am3 am2 ax3 ae6 at0 ao0 ay0 ap0 aj1 aq1 ao1 al1 ab1 as1 az2 aw9 av4 ak2 am5 ao3 ag2 ae5 ak3 al2 at5 ay3 ae2 ad4 ad3 an5 hnz hN hCn hU hz e1 e2 e3
  · exact cd9 l Z a0 hw ws o0 o1 c0 N Cn U k q1 q1 d1 aj0 ag0 an0 ag1 av1 am0 ao2 ab0 h0 n0 Z0 E_o0 E_o1 E_q1 ar2 aw2 ah4 af3 av2 ap2 ag3 ah3 an3 aa2 au9 av9 ar0 an2 at2 aj4 aj2 a8 ah2 am3 am2 ax3 ae6 at0 ao0 ay0 ap0 aj1 aq1 ao1 al1 ab1 as1 az2 bo6 aa8 ak2 am9 ay5 ag2 at8 ao5 al2 ax9 ag6 ae2 an5 az5 an5 hnz hN hCn hU hz e1 e2 e3
  · exact er4 l Z a0 hw ws o0 o1 c0 N Cn U k q1 q0 d0 q1 d1 aj0 ag0 an0 ag1 av1 am0 af1 ao2 ab0 h0 n0 Z0 E_o0 E_o1 E_q0 E_q1 ar2 aw2 ah4 af3 av2 ap2 ag3 ah3 an3 aa2 aj5 ak5 au9 av9 ar0 an2 at2 aj4 aj2 aq4 a8 ah2 am3 am2 ax3 ae6 at0 ao0 ay0 ap0 aj1 aq1 ao1 al1 ab1 as1 az2 aw9 av4 bo6 aa8 ak2 am5 ao3 am9 ay5 ag2 ae5 ak3 at8 ao5 al2 at5 ay3 ax9 ag6 ae2 ad4 ad3 an5 az5 an5 hnz hN hCn hU hz e1 e2 e3 e4 e5
theorem bg7 : decode prog_126_method_2_code 0 = .ok (.aload_n 0, 1) := by decide +kernel
theorem bh7 : decode prog_126_method_2_code 1 = .ok (.getfield 19, 3) := by decide +kernel
theorem bi7 : decode prog_126_method_2_code 4 = .ok (.ifCond .ne 7, 3) := by decide +kernel
theorem di7 : decode prog_126_method_2_code 7 = .ok (.iconst 1, 1) := by decide +kernel
theorem dj7 : decode prog_126_method_2_code 8 = .ok (.goto 21, 3) := by decide +kernel
theorem bm5 : decode prog_126_method_2_code 29 = .ok (.istore_n 2, 1) := by decide +kernel
theorem bn5 : decode prog_126_method_2_code 30 = .ok (.aload_n 0, 1) := by decide +kernel
theorem bo5 : decode prog_126_method_2_code 31 = .ok (.getfield 19, 3) := by decide +kernel
theorem bp5 : decode prog_126_method_2_code 34 = .ok (.aload_n 0, 1) := by decide +kernel
theorem bq5 : decode prog_126_method_2_code 35 = .ok (.getfield 11, 3) := by decide +kernel
theorem br5 : decode prog_126_method_2_code 38 = .ok (.arraylength, 1) := by decide +kernel
theorem bs5 : decode prog_126_method_2_code 39 = .ok (.if_icmp .ne 23, 3) := by decide +kernel
theorem bt5 : decode prog_126_method_2_code 62 = .ok (.aload_n 0, 1) := by decide +kernel
theorem bu5 : decode prog_126_method_2_code 63 = .ok (.getfield 11, 3) := by decide +kernel
theorem bv5 : decode prog_126_method_2_code 66 = .ok (.aload_n 0, 1) := by decide +kernel
theorem bw5 : decode prog_126_method_2_code 67 = .ok (.getfield 19, 3) := by decide +kernel
theorem bx5 : decode prog_126_method_2_code 70 = .ok (.aaload, 1) := by decide +kernel
theorem by5 : decode prog_126_method_2_code 71 = .ok (.astore_n 3, 1) := by decide +kernel
theorem bz5 : decode prog_126_method_2_code 72 = .ok (.aload_n 3, 1) := by decide +kernel
theorem ba6 : decode prog_126_method_2_code 73 = .ok (.ifnonnull 21, 3) := by decide +kernel
theorem ca6 : decode prog_126_method_2_code 76 = .ok (.new 9, 3) := by decide +kernel
theorem cb6 : decode prog_126_method_2_code 79 = .ok (.dup, 1) := by decide +kernel
theorem cc6 : decode prog_126_method_2_code 80 = .ok (.invokespecial 40, 3) := by decide +kernel
theorem cd6 : decode prog_126_method_2_code 83 = .ok (.astore_n 3, 1) := by decide +kernel
theorem ce6 : decode prog_126_method_2_code 84 = .ok (.aload_n 0, 1) := by decide +kernel
theorem cf6 : decode prog_126_method_2_code 85 = .ok (.getfield 11, 3) := by decide +kernel
theorem cg6 : decode prog_126_method_2_code 88 = .ok (.aload_n 0, 1) := by decide +kernel
theorem ch6 : decode prog_126_method_2_code 89 = .ok (.getfield 19, 3) := by decide +kernel
theorem ci6 : decode prog_126_method_2_code 92 = .ok (.aload_n 3, 1) := by decide +kernel
theorem cj6 : decode prog_126_method_2_code 93 = .ok (.aastore, 1) := by decide +kernel
theorem bb6 : decode prog_126_method_2_code 94 = .ok (.aload_n 3, 1) := by decide +kernel
theorem bc6 : decode prog_126_method_2_code 95 = .ok (.aload_n 1, 1) := by decide +kernel
theorem bd6 : decode prog_126_method_2_code 96 = .ok (.putfield 41, 3) := by decide +kernel
theorem be6 : decode prog_126_method_2_code 99 = .ok (.aload_n 3, 1) := by decide +kernel
theorem bx3 : decode prog_126_method_2_code 100 = .ok (.iload_n 2, 1) := by decide +kernel
theorem by3 : decode prog_126_method_2_code 101 = .ok (.putfield 45, 3) := by decide +kernel
theorem bz3 : decode prog_126_method_2_code 104 = .ok (.aload_n 3, 1) := by decide +kernel
theorem b4 : decode prog_126_method_2_code 105 = .ok (.getfield 23, 3) := by decide +kernel
theorem ba4 : decode prog_126_method_2_code 108 = .ok (.invokevirtual 48, 3) := by decide +kernel
theorem bb4 : decode prog_126_method_2_code 111 = .ok (.aload_n 0, 1) := by decide +kernel
theorem bc4 : decode prog_126_method_2_code 112 = .ok (.aload_n 0, 1) := by decide +kernel
theorem bd4 : decode prog_126_method_2_code 113 = .ok (.getfield 51, 3) := by decide +kernel
theorem be4 : decode prog_126_method_2_code 116 = .ok (.aload_n 0, 1) := by decide +kernel
theorem bf4 : decode prog_126_method_2_code 117 = .ok (.getfield 19, 3) := by decide +kernel
theorem bg4 : decode prog_126_method_2_code 120 = .ok (.invokestatic 54, 3) := by decide +kernel
theorem bb1 : parseMethodDescriptor "(II)I" = some ⟨[.int, .int], some .int⟩ := by decide +kernel
theorem bh4 : decode prog_126_method_2_code 123 = .ok (.putfield 51, 3) := by decide +kernel
theorem bi4 : decode prog_126_method_2_code 126 = .ok (.aload_n 0, 1) := by decide +kernel
theorem bj4 : decode prog_126_method_2_code 127 = .ok (.dup, 1) := by decide +kernel
theorem bk4 : decode prog_126_method_2_code 128 = .ok (.getfield 19, 3) := by decide +kernel
theorem bl4 : decode prog_126_method_2_code 131 = .ok (.iconst 1, 1) := by decide +kernel
theorem bm4 : decode prog_126_method_2_code 132 = .ok (.iadd, 1) := by decide +kernel
theorem bn4 : decode prog_126_method_2_code 133 = .ok (.putfield 19, 3) := by decide +kernel
theorem bo4 : decode prog_126_method_2_code 136 = .ok (.return_, 1) := by decide +kernel
theorem em3 (m : MethodId) (o0 : Addr) (o1 : Addr) : entryFrame m #[(.ref o0), (.ref o1)] 4 = mkF m 0 #[.val (.ref o0), .val (.ref o1), .unset, .unset] [] := by first | (simp [entryFrame, mkF, argsToLocals, Value.category]; done) | rfl
set_option maxRecDepth 65536 in
set_option maxHeartbeats 40000000 in
theorem cg2 (l : Launch) (Z : State) (a0 : Array Value) (hw : ∀ d ∈ tables_1, d.before a0 Z = true) (ws : List Jvm.Cond) (o0 : Addr) (o1 : Addr) (as0 : Addr) (h0 : Heap) (n0 : Nat) (Z0 : n0 ≤ h0.size) (E_o0 : Exa Z h0 o0 z_s1) (az3 : Fld Z h0 o0 z_s1 "levels" z_s4 (.ref as0)) (au2 : Fld Z h0 o0 z_s1 "depth" "I" (.int (0 : Int32))) (ax5 : Fld Z h0 o0 z_s1 "written" "I" (.int (0 : Int32))) (ar3 : (ac2 z_s3) Z h0 as0 (List.replicate 16 Value.null)) (ah2 : n0 ≤ o0) (br9 : n0 ≤ as0) (ak4 : o0 ≠ as0) :
    ab3 l Z (⟨z_s1, "enter", z_s7⟩ : MethodName) prog_126_method_2_code 4 none ws ({ frames := 3, cells := 5, slots := 58, locals := 39 } : Room) #[(.ref o0), (.ref o1)] h0 (fun (v : Option Value) (h : Heap) (L : List Loc) => ∃ (b6 : Addr) (b2_9 : Addr) (b2_4_9 : Addr) (b7_4_9 : Addr) (b15_4_9 : Addr), v = none ∧ Fr n0 L ∧ Keep h0 h [o0, as0] ∧ h0.size ≤ b6 ∧ n0 ≤ b6 ∧ h0.size ≤ b2_9 ∧ n0 ≤ b2_9 ∧ h0.size ≤ b2_4_9 ∧ n0 ≤ b2_4_9 ∧ h0.size ≤ b7_4_9 ∧ n0 ≤ b7_4_9 ∧ h0.size ≤ b15_4_9 ∧ n0 ≤ b15_4_9 ∧ b6 ≠ b2_9 ∧ b6 ≠ b2_4_9 ∧ b2_9 ≠ b2_4_9 ∧ b6 ≠ b7_4_9 ∧ b2_9 ≠ b7_4_9 ∧ b2_4_9 ≠ b7_4_9 ∧ b6 ≠ b15_4_9 ∧ b2_9 ≠ b15_4_9 ∧ b2_4_9 ≠ b15_4_9 ∧ b7_4_9 ≠ b15_4_9 ∧ Exa Z h o0 z_s1 ∧ Fld Z h o0 z_s1 "levels" z_s4 (.ref as0) ∧ Fld Z h o0 z_s1 "depth" "I" (.int (1 : Int32)) ∧ Fld Z h o0 z_s1 "written" "I" (.int (0 : Int32)) ∧ (ac2 z_s3) Z h as0 ((List.replicate 16 Value.null).set 0 (.ref b6)) ∧ Exa Z h b6 z_s3 ∧ Fld Z h b6 z_s3 "children" z_s6 (.ref b2_9) ∧ Fld Z h b6 z_s3 "name" z_s5 (.ref o1) ∧ Fld Z h b6 z_s3 "index" "I" (.int (1 : Int32)) ∧ Exa Z h b2_9 z_s0 ∧ Fld Z h b2_9 z_s0 "names" z_s8 (.ref b2_4_9) ∧ Fld Z h b2_9 z_s0 "counts" "[I" (.ref b7_4_9) ∧ Fld Z h b2_9 z_s0 "used" "[I" (.ref b15_4_9) ∧ Fld Z h b2_9 z_s0 "size" "I" (.int (0 : Int32)) ∧ Fld Z h b2_9 z_s0 "last" z_s5 .null ∧ Fld Z h b2_9 z_s0 "lastSlot" "I" (.int (0 : Int32)) ∧ (ac2 z_s2) Z h b2_4_9 (List.replicate 16 Value.null) ∧ ah1 Z h b7_4_9 (List.replicate 16 (0 : Int32)) ∧ ah1 Z h b15_4_9 (List.replicate 16 (0 : Int32))) := by
  refine al3 (plainFor_of_name ar1) ?_
  intro p e s m below meth c s₁ P hx hby hml hrt hlk hown hnm hZ X0 e0 hP
  have N0 := Fr.nil n0
  have K0 := Keep.refl h0 [o0, as0]
  have hml' : c.maxLocals = 4 := hml
  refine ac4 (em3 m o0 o1) ?_
  show aa0 p e below P (s₁.setTop (mkF m 0 #[.val (.ref o0), .val (.ref o1), .unset, .unset] []))
  refine ae0 X0 hx (hb hby bg7) rfl rfl ?_
  refine au0 X0 hx hZ hown (host := "") (Or.inl (z_w hw 45 rfl)) Via.refl e0 au2 (hb hby bh7) (fun T1 X1 e1 => ?_)
  refine aq7 X1 hx (hb hby bi7) ((if0 _ _).trans (teq (by decide : (0 : Int32) = (0 : Int32))).2) ?_
  refine az0 X1 hx (hb hby di7) (z := (1 : Int32)) rfl ?_
  refine ao4 X1 hx (pc' := 29) (hb hby dj7) ?_
  refine ag4 X1 hx (hb hby bm5) (l' := #[.val (.ref o0), .val (.ref o1), .val (.int (1 : Int32)), .unset]) rfl ?_
  refine ae0 X1 hx (hb hby bn5) rfl rfl ?_
  refine au0 X1 hx hZ hown (host := "") (Or.inl (z_w hw 45 rfl)) Via.refl e1 au2 (hb hby bo5) (fun T2 X2 e2 => ?_)
  refine ae0 X2 hx (hb hby bp5) rfl rfl ?_
  refine au0 X2 hx hZ hown (host := "") (Or.inl (z_w hw 35 rfl)) Via.refl e2 az3 (hb hby bq5) (fun T3 X3 e3 => ?_)
  refine ao9 X3 hx hZ e3 ar3 (z := (16 : Int32)) (show Int32.ofNat (List.replicate 16 Value.null).length = (16 : Int32) from by rfl) (hb hby br5) ?_
  refine au3 X3 hx (pc' := 62) (hb hby bs5) (feq (by decide : ¬ ((0 : Int32) = (16 : Int32)))).2 ?_
  refine ae0 X3 hx (hb hby bt5) rfl rfl ?_
  refine au0 X3 hx hZ hown (host := "") (Or.inl (z_w hw 35 rfl)) Via.refl e3 az3 (hb hby bu5) (fun T4 X4 e4 => ?_)
  refine ae0 X4 hx (hb hby bv5) rfl rfl ?_
  refine au0 X4 hx hZ hown (host := "") (Or.inl (z_w hw 45 rfl)) Via.refl e4 au2 (hb hby bw5) (fun T5 X5 e5 => ?_)
  refine ay2 X5 hx hZ e5 ar3 (j := (0 : Int32)) (v := .null) (i := 0) (by decide) rfl (hb hby bx5) ?_
  refine bj2 X5 hx (hb hby by5) rfl (l' := #[.val (.ref o0), .val (.ref o1), .val (.int (1 : Int32)), .val .null]) rfl ?_
  refine ae0 X5 hx (hb hby bz5) rfl rfl ?_
  refine cm4 X5 hx (hb hby ba6) ?_
  obtain ⟨T6, h6, X6, e6, E6, A6, D6, -, st6⟩ := newO X5 hx hZ hown (z_w hw 33 rfl) (z_w hw 47 rfl) (z_w hw 48 rfl) e5 (g := (mkF m 76 #[.val (.ref o0), .val (.ref o1), .val (.int (1 : Int32)), .val .null] [])) rfl (hb hby ca6) (by decide) (by decide)
  obtain ⟨b6, g6⟩ : ∃ z, z = h0.size := ⟨_, rfl⟩
  rw [← g6] at A6 D6 st6
  have ne7 := z_nb E_o0.lt g6
  have ne8 := z_nb ar3.lt g6
  have ci8 : n0 ≤ b6 := Nat.le_trans (Nat.le_trans Z0 K0.1) (Nat.le_of_eq g6.symm)
  have dt0 : h0.size ≤ b6 := Nat.le_trans K0.1 (Nat.le_of_eq g6.symm)
  have K6 := Keep.ext K0 E6
  have di0 : Fld Z h6 b6 z_s3 "children" z_s6 .null := D6 (Or.inr (z_w hw 70 rfl)) (ty := (.object z_s0)) (by decide)
  have ef1 : Fld Z h6 b6 z_s3 "name" z_s5 .null := D6 (Or.inl (z_w hw 73 rfl)) (ty := (.object z_s2)) (by decide)
  have dk7 : Fld Z h6 b6 z_s3 "index" "I" (.int (0 : Int32)) := D6 (Or.inl (z_w hw 75 rfl)) (ty := .int) (by decide)
  refine an1 (fun _ => st6 _) ?_
  show aa0 p e below P (T6.setTop (mkF m 79 #[.val (.ref o0), .val (.ref o1), .val (.int (1 : Int32)), .val .null] [(.ref b6)]))
  refine bi0 X6 hx (hb hby cb6) rfl ?_
  refine co7 X6 hx hZ (y := (⟨z_s3, "<init>", "()V"⟩ : MethodName)) rfl hown (z_w hw 49 rfl) (z_w hw 50 rfl) (z_w hw 48 rfl) (z_w hw 51 rfl) (by decide) (du4 l Z a0 hw [] b6  h6 n0 (Nat.le_trans Z0 K6.1) A6 di0 ef1 dk7 ci8) 1 (by decide) (by decide) e6 (by decide) (by decide) (g := (mkF m 80 #[.val (.ref o0), .val (.ref o1), .val (.int (1 : Int32)), .val .null] [(.ref b6), (.ref b6)])) rfl (by rw [hml']; rfl) (a := b6) (argsL := []) (rest := [(.ref b6)]) rfl (lenOf as2 rfl) rfl (by show 2 * 0 + _ ≤ _; exact Nat.le_of_eq rfl) (hb hby cc6) (fun r9 T9 L9 X9 hQ9 => ?_)
  obtain ⟨b2_9, b2_4_9, b7_4_9, b15_4_9, rfl, Nq9, Kq9, cf4, db1, cz1, dl7, ca2, dm7, cc1, dd4, ct3, cu3, cg7, c3, cq5, cr5, f0_9, f1_9, f2_9, f3_9, f4_9, f5_9, f6_9, f7_9, f8_9, f9_9, f10_9, f11_9, f12_9, f13_9⟩ := hQ9
  have N9 := Fr.app N0 Nq9
  have ne10 := z_nc A6.lt cf4
  have ne11 := z_nc A6.lt cz1
  have ne12 := z_nc A6.lt ca2
  have ne13 := z_nc A6.lt cc1
  have G14 := (E_o0.ext E6)
  have ne15 := z_nc G14.lt cf4
  have ne16 := z_nc G14.lt cz1
  have ne17 := z_nc G14.lt ca2
  have ne18 := z_nc G14.lt cc1
  have G19 := (ar3.ext E6)
  have ne20 := z_nc G19.lt cf4
  have ne21 := z_nc G19.lt cz1
  have ne22 := z_nc G19.lt ca2
  have ne23 := z_nc G19.lt cc1
  have db5 := Nat.le_trans K6.1 cf4
  have eg1 := Nat.le_trans K6.1 cz1
  have eh1 := Nat.le_trans K6.1 ca2
  have dn7 := Nat.le_trans K6.1 cc1
  have K9 := Keep.trans K6 Kq9 (allS (Or.inr dt0) all0)
  show aa0 p e below P (T9.setTop (mkF m 83 #[.val (.ref o0), .val (.ref o1), .val (.int (1 : Int32)), .val .null] [(.ref b6)]))
  refine bj2 X9 hx (hb hby cd6) rfl (l' := #[.val (.ref o0), .val (.ref o1), .val (.int (1 : Int32)), .val (.ref b6)]) rfl ?_
  refine ae0 X9 hx (hb hby ce6) rfl rfl ?_
  have G24 := ((az3.ext E6).keep Kq9 (ninS ne7 nin0))
  refine au0 X9 hx hZ hown (host := "") (Or.inl (z_w hw 35 rfl)) Via.refl rfl G24 (hb hby cf6) (fun T25 X25 e25 => ?_)
  refine ae0 X25 hx (hb hby cg6) rfl rfl ?_
  have G26 := ((au2.ext E6).keep Kq9 (ninS ne7 nin0))
  refine au0 X25 hx hZ hown (host := "") (Or.inl (z_w hw 45 rfl)) Via.refl e25 G26 (hb hby ch6) (fun T27 X27 e27 => ?_)
  refine ae0 X27 hx (hb hby ci6) rfl rfl ?_
  have G28 := (G19.keep Kq9 (ninS ne8 nin0))
  refine bf8 X27 hx hZ e27 G28 (j := (0 : Int32)) (v := (.ref b6)) (i := 0) (by decide) (by decide) (Or.inr ⟨_, rfl, Ins.self f0_9⟩) (hb hby cj6) (fun T29 h29 X29 e29 W29 B29 => ?_)
  have A29 : (ac2 z_s3) Z h29 as0 ((List.replicate 16 Value.null).set 0 (.ref b6)) := B29
  have N29 := Fr.snoc X29 N9 br9
  have K29 := Keep.wr K9 W29 (Or.inl (List.mem_of_getElem? (i := 1) rfl))
  refine ae0 X29 hx (hb hby bb6) rfl rfl ?_
  refine ae0 X29 hx (hb hby bc6) rfl rfl ?_
  have G30 := (f2_9.other W29 (Or.inl ne8.symm))
  have G31 := (f0_9.wr W29)
  obtain ⟨T32, h32, X32, e32, W32, st32⟩ := be1 X29 hx hZ hown (z_w hw 72 rfl) Via.refl e29 G30 G31 ((z_w hw 73 rfl)) (z_w hw 47 rfl) (ty := (.object z_s2)) (by decide) rfl rfl (g := (mkF m 96 #[.val (.ref o0), .val (.ref o1), .val (.int (1 : Int32)), .val (.ref b6)] [(.ref o1), (.ref b6)])) rfl rfl (hb hby bd6)
  have N32 := Fr.snoc X32 N29 ci8
  have K32 := Keep.wr K29 W32 (Or.inr dt0)
  have F32 := G30.same W32
  refine an1 (fun _ => st32 _) ?_
  show aa0 p e below P (T32.setTop (mkF m 99 #[.val (.ref o0), .val (.ref o1), .val (.int (1 : Int32)), .val (.ref b6)] []))
  refine ae0 X32 hx (hb hby be6) rfl rfl ?_
  refine ae1 X32 hx (hb hby bx3) rfl ?_
  have G33 := ((f3_9.other W29 (Or.inl ne8.symm)).other W32 (Or.inr (slot_ne (Or.inl (z_w hw 75 rfl)) (Or.inl (z_w hw 73 rfl)) (by decide) (t := .int) (t' := (.object z_s2)) (by decide) (by decide))))
  have G34 := (G31.wr W32)
  obtain ⟨T35, h35, X35, e35, W35, st35⟩ := be1 X32 hx hZ hown (z_w hw 74 rfl) Via.refl e32 G33 G34 ((z_w hw 75 rfl)) (z_w hw 47 rfl) (ty := .int) (by decide) rfl rfl (g := (mkF m 101 #[.val (.ref o0), .val (.ref o1), .val (.int (1 : Int32)), .val (.ref b6)] [(.int (1 : Int32)), (.ref b6)])) rfl rfl (hb hby by3)
  have N35 := Fr.snoc X35 N32 ci8
  have K35 := Keep.wr K32 W35 (Or.inr dt0)
  have F35 := G33.same W35
  refine an1 (fun _ => st35 _) ?_
  show aa0 p e below P (T35.setTop (mkF m 104 #[.val (.ref o0), .val (.ref o1), .val (.int (1 : Int32)), .val (.ref b6)] []))
  refine ae0 X35 hx (hb hby bz3) rfl rfl ?_
  have G36 := (((f1_9.other W29 (Or.inl ne8.symm)).other W32 (Or.inr (slot_ne (Or.inr (z_w hw 70 rfl)) (Or.inl (z_w hw 73 rfl)) (by decide) (t := (.object z_s0)) (t' := (.object z_s2)) (by decide) (by decide)))).other W35 (Or.inr (slot_ne (Or.inr (z_w hw 70 rfl)) (Or.inl (z_w hw 75 rfl)) (by decide) (t := (.object z_s0)) (t' := .int) (by decide) (by decide))))
  obtain ⟨T37, X37, e37, st37⟩ := bl0 X35 hx hZ hown (z_w hw 76 rfl) Via.refl e35 G36 (g := (mkF m 105 #[.val (.ref o0), .val (.ref o1), .val (.int (1 : Int32)), .val (.ref b6)] [(.ref b6)])) rfl rfl (hb hby b4)
  refine an1 (fun _ => st37 _) ?_
  show aa0 p e below P (T37.setTop (mkF m 108 #[.val (.ref o0), .val (.ref o1), .val (.int (1 : Int32)), .val (.ref b6)] [(.ref b2_9)]))
  have G39 := (((f4_9.wr W29).wr W32).wr W35)
  have G40 := (((f8_9.other W29 (Or.inl ne20.symm)).other W32 (Or.inl ne10.symm)).other W35 (Or.inl ne10.symm))
  have G41 := (((f9_9.other W29 (Or.inl ne20.symm)).other W32 (Or.inl ne10.symm)).other W35 (Or.inl ne10.symm))
  have G42 := (((f5_9.other W29 (Or.inl ne20.symm)).other W32 (Or.inl ne10.symm)).other W35 (Or.inl ne10.symm))
  have G43 := (((f6_9.other W29 (Or.inl ne20.symm)).other W32 (Or.inl ne10.symm)).other W35 (Or.inl ne10.symm))
  have G44 := (((f7_9.other W29 (Or.inl ne20.symm)).other W32 (Or.inl ne10.symm)).other W35 (Or.inl ne10.symm))
  have G45 := (((f10_9.other W29 (Or.inl ne20.symm)).other W32 (Or.inl ne10.symm)).other W35 (Or.inl ne10.symm))
  refine az1 X37 hx hZ (y := (⟨z_s0, "clear", "()V"⟩ : MethodName)) (z := (⟨z_s0, "clear", "()V"⟩ : MethodName)) hown (z_w hw 77 rfl) (z_w hw 78 rfl) (notFace_of_selects (args := #[]) (mvT hZ (z_w hw 80 rfl))) (z_w hw 80 rfl) (z_w hw 79 rfl) (z_w hw 55 rfl) (z_w hw 81 rfl) G39 (ep2 l Z a0 hw [] b2_9 b2_4_9 b7_4_9 b15_4_9 (0 : Int32) h35 n0 (Nat.le_trans Z0 K35.1) G39 G40 G41 G42 G43 G44 G45 db1) 0 e37 hml' (argsL := []) (rest := []) (lenOf as2 rfl) (hb hby ba4) (fun r38 T38 L38 X38 hQ38 => ?_)
  obtain ⟨rfl, Nq38, Kq38, f0_38, f1_38, f2_38, f3_38, f4_38, f5_38, f6_38⟩ := hQ38
  have N38 := Fr.app N35 Nq38
  have K38 := Keep.trans K35 Kq38 (allS (Or.inr db5) all0)
  show aa0 p e below P (T38.setTop (mkF m 111 #[.val (.ref o0), .val (.ref o1), .val (.int (1 : Int32)), .val (.ref b6)] []))
  refine ae0 X38 hx (hb hby bb4) rfl rfl ?_
  refine ae0 X38 hx (hb hby bc4) rfl rfl ?_
  have G46 := ((((((ax5.ext E6).keep Kq9 (ninS ne7 nin0)).other W29 (Or.inl ak4)).other W32 (Or.inl ne7)).other W35 (Or.inl ne7)).keep Kq38 (ninS ne15 nin0))
  refine au0 X38 hx hZ hown (host := "") (Or.inl (z_w hw 86 rfl)) Via.refl rfl G46 (hb hby bd4) (fun T47 X47 e47 => ?_)
  refine ae0 X47 hx (hb hby be4) rfl rfl ?_
  have G48 := ((((G26.other W29 (Or.inl ak4)).other W32 (Or.inl ne7)).other W35 (Or.inl ne7)).keep Kq38 (ninS ne15 nin0))
  refine au0 X47 hx hZ hown (host := "") (Or.inl (z_w hw 45 rfl)) Via.refl e47 G48 (hb hby bf4) (fun T49 X49 e49 => ?_)
  refine as5 X49 hx hZ (y := (⟨"java/lang/Math", "min", "(II)I"⟩ : MethodName)) hown (z_w hw 88 rfl) (z_w hw 89 rfl) (z_w hw 90 rfl) (z_w hw 91 rfl) (cc0 l Z a0 hw [] (0 : Int32) (0 : Int32)  T38.heap n0 (Nat.le_trans Z0 K38.1) ) 1 e49 hml' (argsL := [(.int (0 : Int32)), (.int (0 : Int32))]) (rest := [(.ref o0)]) (lenOf bb1 rfl) (hb hby bg4) (fun r50 T50 L50 X50 hQ50 => ?_)
  obtain ⟨rfl, Nq50, eq50⟩ := hQ50
  have N50 := Fr.app N38 Nq50
  show aa0 p e below P (T50.setTop (mkF m 123 #[.val (.ref o0), .val (.ref o1), .val (.int (1 : Int32)), .val (.ref b6)] [(.int (al9 (0 : Int32) (0 : Int32))), (.ref o0)]))
  rw [show (al9 (0 : Int32) (0 : Int32)) = (0 : Int32) from by decide]
  show aa0 p e below P (T50.setTop (mkF m 123 #[.val (.ref o0), .val (.ref o1), .val (.int (1 : Int32)), .val (.ref b6)] [(.int (0 : Int32)), (.ref o0)]))
  have G51 := (((((G14.keep Kq9).wr W29).wr W32).wr W35).keep Kq38)
  refine am4 X50 hx hZ hown (host := "") (Or.inl (z_w hw 86 rfl)) Via.refl eq50 G46 G51 (Or.inl (z_w hw 87 rfl)) (z_w hw 27 rfl) (ty := .int) (by decide) (hb hby bh4) (fun T52 h52 X52 e52 W52 => ?_)
  have N52 := Fr.snoc X52 N50 ah2
  have K52 := Keep.wr K38 W52 (Or.inl (List.mem_of_getElem? (i := 0) rfl))
  have F52 := G46.same W52
  refine ae0 X52 hx (hb hby bi4) rfl rfl ?_
  refine bi0 X52 hx (hb hby bj4) rfl ?_
  have G53 := (G48.other W52 (Or.inr (slot_ne (Or.inl (z_w hw 46 rfl)) (Or.inl (z_w hw 87 rfl)) (by decide) (t := .int) (t' := .int) (by decide) (by decide))))
  refine au0 X52 hx hZ hown (host := "") (Or.inl (z_w hw 45 rfl)) Via.refl e52 G53 (hb hby bk4) (fun T54 X54 e54 => ?_)
  refine az0 X54 hx (hb hby bl4) (z := (1 : Int32)) rfl ?_
  refine ad6 X54 hx (hb hby bm4) (z := (1 : Int32)) rfl ?_
  have G55 := (G51.wr W52)
  refine am4 X54 hx hZ hown (host := "") (Or.inl (z_w hw 45 rfl)) Via.refl e54 G53 G55 (Or.inl (z_w hw 46 rfl)) (z_w hw 27 rfl) (ty := .int) (by decide) (hb hby bn4) (fun T56 h56 X56 e56 W56 => ?_)
  have N56 := Fr.snoc X56 N52 ah2
  have K56 := Keep.wr K52 W56 (Or.inl (List.mem_of_getElem? (i := 0) rfl))
  have F56 := G53.same W56
  have G57 := (G55.wr W56)
  have G58 := ((((((G24.other W29 (Or.inl ak4)).other W32 (Or.inl ne7)).other W35 (Or.inl ne7)).keep Kq38 (ninS ne15 nin0)).other W52 (Or.inr (slot_ne (Or.inl (z_w hw 36 rfl)) (Or.inl (z_w hw 87 rfl)) (by decide) (t := (.array (.object z_s3))) (t' := .int) (by decide) (by decide)))).other W56 (Or.inr (slot_ne (Or.inl (z_w hw 36 rfl)) (Or.inl (z_w hw 46 rfl)) (by decide) (t := (.array (.object z_s3))) (t' := .int) (by decide) (by decide))))
  have G59 := (F52.other W56 (Or.inr (slot_ne (Or.inl (z_w hw 87 rfl)) (Or.inl (z_w hw 46 rfl)) (by decide) (t := .int) (t' := .int) (by decide) (by decide))))
  have G60 := (((((A29.other W32 ne8).other W35 ne8).keep Kq38 (ninS ne20 nin0)).other W52 ak4.symm).other W56 ak4.symm)
  have G61 := ((((G34.wr W35).keep Kq38).wr W52).wr W56)
  have G62 := (((G36.keep Kq38 (ninS ne10 nin0)).other W52 (Or.inl ne7.symm)).other W56 (Or.inl ne7.symm))
  have G63 := ((((F32.other W35 (Or.inr (slot_ne (Or.inl (z_w hw 73 rfl)) (Or.inl (z_w hw 75 rfl)) (by decide) (t := (.object z_s2)) (t' := .int) (by decide) (by decide)))).keep Kq38 (ninS ne10 nin0)).other W52 (Or.inl ne7.symm)).other W56 (Or.inl ne7.symm))
  have G64 := (((F35.keep Kq38 (ninS ne10 nin0)).other W52 (Or.inl ne7.symm)).other W56 (Or.inl ne7.symm))
  have G65 := ((f0_38.wr W52).wr W56)
  have G66 := ((f3_38.other W52 (Or.inl ne15.symm)).other W56 (Or.inl ne15.symm))
  have G67 := ((f4_38.other W52 (Or.inl ne15.symm)).other W56 (Or.inl ne15.symm))
  have G68 := ((f5_38.other W52 (Or.inl ne15.symm)).other W56 (Or.inl ne15.symm))
  have G69 := ((f1_38.other W52 (Or.inl ne15.symm)).other W56 (Or.inl ne15.symm))
  have G70 := ((f2_38.other W52 (Or.inl ne15.symm)).other W56 (Or.inl ne15.symm))
  have G71 := ((f6_38.other W52 (Or.inl ne15.symm)).other W56 (Or.inl ne15.symm))
  have G72 := ((((((f11_9.other W29 ne21.symm).other W32 ne11.symm).other W35 ne11.symm).keep Kq38 (ninS ct3.symm nin0)).other W52 ne16.symm).other W56 ne16.symm)
  have G73 := ((((((f12_9.other W29 ne22.symm).other W32 ne12.symm).other W35 ne12.symm).keep Kq38 (ninS cu3.symm nin0)).other W52 ne17.symm).other W56 ne17.symm)
  have G74 := ((((((f13_9.other W29 ne23.symm).other W32 ne13.symm).other W35 ne13.symm).keep Kq38 (ninS c3.symm nin0)).other W52 ne18.symm).other W56 ne18.symm)
  have hfin : ((fun (v : Option Value) (h : Heap) (L : List Loc) => ∃ (b6 : Addr) (b2_9 : Addr) (b2_4_9 : Addr) (b7_4_9 : Addr) (b15_4_9 : Addr), v = none ∧ Fr n0 L ∧ Keep h0 h [o0, as0] ∧ h0.size ≤ b6 ∧ n0 ≤ b6 ∧ h0.size ≤ b2_9 ∧ n0 ≤ b2_9 ∧ h0.size ≤ b2_4_9 ∧ n0 ≤ b2_4_9 ∧ h0.size ≤ b7_4_9 ∧ n0 ≤ b7_4_9 ∧ h0.size ≤ b15_4_9 ∧ n0 ≤ b15_4_9 ∧ b6 ≠ b2_9 ∧ b6 ≠ b2_4_9 ∧ b2_9 ≠ b2_4_9 ∧ b6 ≠ b7_4_9 ∧ b2_9 ≠ b7_4_9 ∧ b2_4_9 ≠ b7_4_9 ∧ b6 ≠ b15_4_9 ∧ b2_9 ≠ b15_4_9 ∧ b2_4_9 ≠ b15_4_9 ∧ b7_4_9 ≠ b15_4_9 ∧ Exa Z h o0 z_s1 ∧ Fld Z h o0 z_s1 "levels" z_s4 (.ref as0) ∧ Fld Z h o0 z_s1 "depth" "I" (.int (1 : Int32)) ∧ Fld Z h o0 z_s1 "written" "I" (.int (0 : Int32)) ∧ (ac2 z_s3) Z h as0 ((List.replicate 16 Value.null).set 0 (.ref b6)) ∧ Exa Z h b6 z_s3 ∧ Fld Z h b6 z_s3 "children" z_s6 (.ref b2_9) ∧ Fld Z h b6 z_s3 "name" z_s5 (.ref o1) ∧ Fld Z h b6 z_s3 "index" "I" (.int (1 : Int32)) ∧ Exa Z h b2_9 z_s0 ∧ Fld Z h b2_9 z_s0 "names" z_s8 (.ref b2_4_9) ∧ Fld Z h b2_9 z_s0 "counts" "[I" (.ref b7_4_9) ∧ Fld Z h b2_9 z_s0 "used" "[I" (.ref b15_4_9) ∧ Fld Z h b2_9 z_s0 "size" "I" (.int (0 : Int32)) ∧ Fld Z h b2_9 z_s0 "last" z_s5 .null ∧ Fld Z h b2_9 z_s0 "lastSlot" "I" (.int (0 : Int32)) ∧ (ac2 z_s2) Z h b2_4_9 (List.replicate 16 Value.null) ∧ ah1 Z h b7_4_9 (List.replicate 16 (0 : Int32)) ∧ ah1 Z h b15_4_9 (List.replicate 16 (0 : Int32)))) none h56 _ := ⟨b6, b2_9, b2_4_9, b7_4_9, b15_4_9, rfl, N56, K56, dt0, ci8, db5, db1, eg1, dl7, eh1, dm7, dn7, dd4, ne10, ne11, ct3, ne12, cu3, cg7, ne13, c3, cq5, cr5, G57, G58, F56, G59, G60, G61, G62, G63, G64, G65, G66, G67, G68, G69, G70, G71, G72, G73, G74⟩
  refine bj0 X56 hx hlk hP hrt (hb hby bo4) (by decide) (by decide) ?_
  rw [e56]; exact hfin
theorem br7 : decode prog_126_method_2_code 11 = .ok (.aload_n 0, 1) := by decide +kernel
theorem bs7 : decode prog_126_method_2_code 12 = .ok (.getfield 11, 3) := by decide +kernel
theorem bt7 : decode prog_126_method_2_code 15 = .ok (.aload_n 0, 1) := by decide +kernel
theorem bu7 : decode prog_126_method_2_code 16 = .ok (.getfield 19, 3) := by decide +kernel
theorem bv7 : decode prog_126_method_2_code 19 = .ok (.iconst 1, 1) := by decide +kernel
theorem bw7 : decode prog_126_method_2_code 20 = .ok (.isub, 1) := by decide +kernel
theorem bx7 : decode prog_126_method_2_code 21 = .ok (.aaload, 1) := by decide +kernel
theorem by7 : decode prog_126_method_2_code 22 = .ok (.getfield 23, 3) := by decide +kernel
theorem bz7 : decode prog_126_method_2_code 25 = .ok (.aload_n 1, 1) := by decide +kernel
theorem b8 : decode prog_126_method_2_code 26 = .ok (.invokevirtual 27, 3) := by decide +kernel
theorem af6 : parseMethodDescriptor z_s9 = some ⟨[(.object z_s2)], some .int⟩ := by decide +kernel
theorem en3 (m : MethodId) (o0 : Addr) (o1 : Addr) : entryFrame m #[(.ref o0), (.ref o1)] 4 = mkF m 0 #[.val (.ref o0), .val (.ref o1), .unset, .unset] [] := by first | (simp [entryFrame, mkF, argsToLocals, Value.category]; done) | rfl
set_option maxRecDepth 65536 in
set_option maxHeartbeats 40000000 in
theorem ch2 (l : Launch) (Z : State) (a0 : Array Value) (hw : ∀ d ∈ tables_1, d.before a0 Z = true) (ws : List Jvm.Cond) (o0 : Addr) (o1 : Addr) (L0 : Addr) (Lv : List Value) (c0 : Int32) (N : List Value) (Cn : List Int32) (U : List Int32) (k : Int32) (as0 : Addr) (af0 : Addr) (ai0 : Addr) (ad0 : Addr) (al0 : Addr) (ax1 : Int32) (af2 : Int32) (am0 : Addr) (ab0 : Int32) (h0 : Heap) (n0 : Nat) (Z0 : n0 ≤ h0.size) (E_o0 : Exa Z h0 o0 z_s1) (E_L0 : Exa Z h0 L0 z_s3) (al5 : Exa Z h0 af0 z_s0) (E_o1 : Exa Z h0 o1 z_s2) (az3 : Fld Z h0 o0 z_s1 "levels" z_s4 (.ref as0)) (au2 : Fld Z h0 o0 z_s1 "depth" "I" (.int (1 : Int32))) (ax5 : Fld Z h0 o0 z_s1 "written" "I" (.int (0 : Int32))) (aj9 : Fld Z h0 L0 z_s3 "children" z_s6 (.ref af0)) (as6 : Fld Z h0 af0 z_s0 "names" z_s8 (.ref ai0)) (ag5 : Fld Z h0 af0 z_s0 "counts" "[I" (.ref ad0)) (ad7 : Fld Z h0 af0 z_s0 "used" "[I" (.ref al0)) (ae7 : Fld Z h0 af0 z_s0 "size" "I" (.int ax1)) (ap5 : Fld Z h0 af0 z_s0 "last" z_s5 .null) (aw4 : Fld Z h0 af0 z_s0 "lastSlot" "I" (.int af2)) (ag3 : Fld Z h0 o1 z_s2 "value" "[B" (.ref am0)) (ah3 : Fld Z h0 o1 z_s2 "coder" "B" (.int (0 : Int32))) (an3 : Fld Z h0 o1 z_s2 "hash" "I" (.int (0 : Int32))) (aa2 : Fld Z h0 o1 z_s2 "hashIsZero" "Z" (.int (0 : Int32))) (ar0 : Sta Z h0 z_s2 "COMPACT_STRINGS" "Z" (.int ab0)) (ar3 : (ac2 z_s3) Z h0 as0 Lv) (ah6 : (ac2 z_s2) Z h0 ai0 N) (ax4 : ah1 Z h0 ad0 Cn) (ae9 : ah1 Z h0 al0 U) (aj2 : ax2 Z h0 am0 [c0]) (ah2 : n0 ≤ o0) (br9 : n0 ≤ as0) (au8 : n0 ≤ af0) (ar7 : n0 ≤ ai0) (an4 : n0 ≤ ad0) (ab8 : n0 ≤ al0) (ae6 : n0 ≤ o1) (ak4 : o0 ≠ as0) (aq0 : o0 ≠ af0) (ab2 : o0 ≠ ai0) (ac1 : o0 ≠ ad0) (ai2 : o0 ≠ al0) (ap0 : o0 ≠ o1) (aa5 : as0 ≠ af0) (bv0 : as0 ≠ ai0) (bs0 : as0 ≠ ad0) (bc1 : as0 ≠ al0) (bj1 : as0 ≠ o1) (av3 : af0 ≠ ai0) (as3 : af0 ≠ ad0) (ad5 : af0 ≠ al0) (ap7 : af0 ≠ o1) (af4 : ai0 ≠ ad0) (al4 : ai0 ≠ al0) (az6 : ai0 ≠ o1) (ai4 : ad0 ≠ al0) (ab5 : ad0 ≠ o1) (ah7 : al0 ≠ o1) (cg4 : o0 ≠ L0) (az2 : o0 ≠ am0) (eu1 : as0 ≠ L0) (du0 : as0 ≠ am0) (bg6 : af0 ≠ L0) (ab6 : af0 ≠ am0) (bt4 : ai0 ≠ L0) (at4 : ai0 ≠ am0) (ai8 : ad0 ≠ L0) (ar4 : ad0 ≠ am0) (bb5 : al0 ≠ L0) (az4 : al0 ≠ am0) (dc1 : o1 ≠ L0) (ae2 : o1 ≠ am0) (hnz : ¬ (ab0 = (0 : Int32))) (hN : N.length = 16) (hCn : Cn.length = 16) (hU : U.length = 16) (hz : bg0 ax1) (hp0 : N[ah0 (ac0 c0)]? = some .null) (hl0 : Lv[0]? = some (.ref L0)) (hl1 : Lv[1]? = some .null) (hll : Lv.length = 16) :
    ab3 l Z (⟨z_s1, "enter", z_s7⟩ : MethodName) prog_126_method_2_code 4 none ws ({ frames := 3, cells := 5, slots := 58, locals := 44 } : Room) #[(.ref o0), (.ref o1)] h0 (fun (v : Option Value) (h : Heap) (L : List Loc) => ∃ (b13 : Addr) (b2_26 : Addr), v = none ∧ Fr n0 L ∧ Keep h0 h [o0, as0, af0, ai0, ad0, al0, o1] ∧ h0.size ≤ b13 ∧ n0 ≤ b13 ∧ h0.size ≤ b2_26 ∧ n0 ≤ b2_26 ∧ b13 ≠ b2_26 ∧ Exa Z h o0 z_s1 ∧ Exa Z h af0 z_s0 ∧ Exa Z h o1 z_s2 ∧ Fld Z h o0 z_s1 "levels" z_s4 (.ref as0) ∧ Fld Z h o0 z_s1 "depth" "I" (.int (2 : Int32)) ∧ Fld Z h o0 z_s1 "written" "I" (.int (0 : Int32)) ∧ Fld Z h af0 z_s0 "names" z_s8 (.ref ai0) ∧ Fld Z h af0 z_s0 "counts" "[I" (.ref ad0) ∧ Fld Z h af0 z_s0 "used" "[I" (.ref al0) ∧ Fld Z h af0 z_s0 "size" "I" (.int (ac5 false ax1)) ∧ Fld Z h af0 z_s0 "last" z_s5 (.ref o1) ∧ Fld Z h af0 z_s0 "lastSlot" "I" (.int (ac0 c0)) ∧ Fld Z h o1 z_s2 "value" "[B" (.ref am0) ∧ Fld Z h o1 z_s2 "coder" "B" (.int (0 : Int32)) ∧ Fld Z h o1 z_s2 "hash" "I" (.int (ak1 c0)) ∧ Fld Z h o1 z_s2 "hashIsZero" "Z" (.int (aj6 (ak1 c0))) ∧ (ac2 z_s3) Z h as0 (Lv.set 1 (.ref b13)) ∧ (ac2 z_s2) Z h ai0 (ap4 false N (ah0 (ac0 c0)) o1) ∧ ah1 Z h ad0 (ai3 false Cn (ah0 (ac0 c0)) k) ∧ ah1 Z h al0 (ap6 false U (ah0 ax1) (ac0 c0)) ∧ Exa Z h b13 z_s3 ∧ Fld Z h b13 z_s3 "children" z_s6 (.ref b2_26) ∧ Fld Z h b13 z_s3 "name" z_s5 (.ref o1) ∧ Fld Z h b13 z_s3 "index" "I" (.int (ax0 false k)) ∧ Exa Z h b2_26 z_s0 ∧ Fld Z h b2_26 z_s0 "size" "I" (.int (0 : Int32)) ∧ Fld Z h b2_26 z_s0 "last" z_s5 .null) := by
  refine al3 (plainFor_of_name ar1) ?_
  intro p e s m below meth c s₁ P hx hby hml hrt hlk hown hnm hZ X0 e0 hP
  have N0 := Fr.nil n0
  have K0 := Keep.refl h0 [o0, as0, af0, ai0, ad0, al0, o1]
  have hml' : c.maxLocals = 4 := hml
  refine ac4 (en3 m o0 o1) ?_
  show aa0 p e below P (s₁.setTop (mkF m 0 #[.val (.ref o0), .val (.ref o1), .unset, .unset] []))
  refine ae0 X0 hx (hb hby bg7) rfl rfl ?_
  refine au0 X0 hx hZ hown (host := "") (Or.inl (z_w hw 45 rfl)) Via.refl e0 au2 (hb hby bh7) (fun T1 X1 e1 => ?_)
  refine al7 X1 hx (pc' := 11) (hb hby bi7) ((if0 _ _).trans (feq (by decide : ¬ ((1 : Int32) = (0 : Int32)))).2) ?_
  refine ae0 X1 hx (hb hby br7) rfl rfl ?_
  refine au0 X1 hx hZ hown (host := "") (Or.inl (z_w hw 35 rfl)) Via.refl e1 az3 (hb hby bs7) (fun T2 X2 e2 => ?_)
  refine ae0 X2 hx (hb hby bt7) rfl rfl ?_
  refine au0 X2 hx hZ hown (host := "") (Or.inl (z_w hw 45 rfl)) Via.refl e2 au2 (hb hby bu7) (fun T3 X3 e3 => ?_)
  refine az0 X3 hx (hb hby bv7) (z := (1 : Int32)) rfl ?_
  refine bt1 X3 hx (hb hby bw7) (z := (0 : Int32)) rfl ?_
  refine ay2 X3 hx hZ e3 ar3 (j := (0 : Int32)) (v := (.ref L0)) (i := 0) (by decide) hl0 (hb hby bx7) ?_
  obtain ⟨T4, X4, e4, st4⟩ := bl0 X3 hx hZ hown (z_w hw 76 rfl) Via.refl e3 aj9 (g := (mkF m 22 #[.val (.ref o0), .val (.ref o1), .unset, .unset] [(.ref L0)])) rfl rfl (hb hby by7)
  refine an1 (fun _ => st4 _) ?_
  show aa0 p e below P (T4.setTop (mkF m 25 #[.val (.ref o0), .val (.ref o1), .unset, .unset] [(.ref af0)]))
  refine ae0 X4 hx (hb hby bz7) rfl rfl ?_
  refine az1 X4 hx hZ (y := (⟨z_s0, "count", z_s9⟩ : MethodName)) (z := (⟨z_s0, "count", z_s9⟩ : MethodName)) hown (z_w hw 92 rfl) (z_w hw 93 rfl) (notFace_of_selects (args := #[]) (mvT hZ (z_w hw 95 rfl))) (z_w hw 95 rfl) (z_w hw 94 rfl) (z_w hw 55 rfl) (z_w hw 96 rfl) al5 (ez2 l Z a0 hw [] af0 o1 c0 N Cn U k ai0 ad0 al0 ax1 af2 am0 ab0 h0 n0 (Nat.le_trans Z0 K0.1) al5 E_o1 as6 ag5 ad7 ae7 ap5 aw4 ag3 ah3 an3 aa2 ar0 ah6 ax4 ae9 aj2 au8 ar7 an4 ab8 ae6 av3 as3 ad5 ap7 af4 al4 az6 ai4 ab5 ah7 ab6 at4 ar4 az4 ae2 hnz hN hCn hU hz hp0) 0 e4 hml' (argsL := [(.ref o1)]) (rest := []) (lenOf af6 rfl) (hb hby b8) (fun r5 T5 L5 X5 hQ5 => ?_)
  obtain ⟨rfl, Nq5, Kq5, f0_5, f1_5, f2_5, f3_5, f4_5, f5_5, f6_5, f7_5, f8_5, f9_5, f10_5, f11_5, f12_5, f13_5, f14_5⟩ := hQ5
  have N5 := Fr.app N0 Nq5
  have K5 := Keep.trans K0 Kq5 (allS (Or.inl (List.mem_of_getElem? (i := 2) rfl)) (allS (Or.inl (List.mem_of_getElem? (i := 3) rfl)) (allS (Or.inl (List.mem_of_getElem? (i := 4) rfl)) (allS (Or.inl (List.mem_of_getElem? (i := 5) rfl)) (allS (Or.inl (List.mem_of_getElem? (i := 6) rfl)) all0)))))
  show aa0 p e below P (T5.setTop (mkF m 29 #[.val (.ref o0), .val (.ref o1), .unset, .unset] [(.int (ax0 false k))]))
  refine ag4 X5 hx (hb hby bm5) (l' := #[.val (.ref o0), .val (.ref o1), .val (.int (ax0 false k)), .unset]) rfl ?_
  refine ae0 X5 hx (hb hby bn5) rfl rfl ?_
  have G6 := (au2.keep Kq5 (ninS aq0 (ninS ab2 (ninS ac1 (ninS ai2 (ninS ap0 nin0))))))
  refine au0 X5 hx hZ hown (host := "") (Or.inl (z_w hw 45 rfl)) Via.refl rfl G6 (hb hby bo5) (fun T7 X7 e7 => ?_)
  refine ae0 X7 hx (hb hby bp5) rfl rfl ?_
  have G8 := (az3.keep Kq5 (ninS aq0 (ninS ab2 (ninS ac1 (ninS ai2 (ninS ap0 nin0))))))
  refine au0 X7 hx hZ hown (host := "") (Or.inl (z_w hw 35 rfl)) Via.refl e7 G8 (hb hby bq5) (fun T9 X9 e9 => ?_)
  have G10 := (ar3.keep Kq5 (ninS aa5 (ninS bv0 (ninS bs0 (ninS bc1 (ninS bj1 nin0))))))
  refine ao9 X9 hx hZ e9 G10 (z := (16 : Int32)) (show Int32.ofNat Lv.length = (16 : Int32) from by rw [hll]; rfl) (hb hby br5) ?_
  refine au3 X9 hx (pc' := 62) (hb hby bs5) (feq (by decide : ¬ ((1 : Int32) = (16 : Int32)))).2 ?_
  refine ae0 X9 hx (hb hby bt5) rfl rfl ?_
  refine au0 X9 hx hZ hown (host := "") (Or.inl (z_w hw 35 rfl)) Via.refl e9 G8 (hb hby bu5) (fun T11 X11 e11 => ?_)
  refine ae0 X11 hx (hb hby bv5) rfl rfl ?_
  refine au0 X11 hx hZ hown (host := "") (Or.inl (z_w hw 45 rfl)) Via.refl e11 G6 (hb hby bw5) (fun T12 X12 e12 => ?_)
  refine ay2 X12 hx hZ e12 G10 (j := (1 : Int32)) (v := .null) (i := 1) (by decide) hl1 (hb hby bx5) ?_
  refine bj2 X12 hx (hb hby by5) rfl (l' := #[.val (.ref o0), .val (.ref o1), .val (.int (ax0 false k)), .val .null]) rfl ?_
  refine ae0 X12 hx (hb hby bz5) rfl rfl ?_
  refine cm4 X12 hx (hb hby ba6) ?_
  obtain ⟨T13, h13, X13, e13, E13, A13, D13, -, st13⟩ := newO X12 hx hZ hown (z_w hw 33 rfl) (z_w hw 47 rfl) (z_w hw 48 rfl) e12 (g := (mkF m 76 #[.val (.ref o0), .val (.ref o1), .val (.int (ax0 false k)), .val .null] [])) rfl (hb hby ca6) (by decide) (by decide)
  obtain ⟨b13, g13⟩ : ∃ z, z = T5.heap.size := ⟨_, rfl⟩
  rw [← g13] at A13 D13 st13
  have G15 := (E_L0.keep Kq5)
  have ne14 := z_nb G15.lt g13
  have G17 := (E_o0.keep Kq5)
  have ne16 := z_nb G17.lt g13
  have ne18 := z_nb f10_5.lt g13
  have ne19 := z_nb f0_5.lt g13
  have ne20 := z_nb G10.lt g13
  have G22 := (aj2.keep Kq5 (ninS ab6.symm (ninS at4.symm (ninS ar4.symm (ninS az4.symm (ninS ae2.symm nin0))))))
  have ne21 := z_nb G22.lt g13
  have ne23 := z_nb f8_5.lt g13
  have ne24 := z_nb f7_5.lt g13
  have ne25 := z_nb f9_5.lt g13
  have co5 : n0 ≤ b13 := Nat.le_trans (Nat.le_trans Z0 K5.1) (Nat.le_of_eq g13.symm)
  have cj8 : h0.size ≤ b13 := Nat.le_trans K5.1 (Nat.le_of_eq g13.symm)
  have K13 := Keep.ext K5 E13
  have cf9 : Fld Z h13 b13 z_s3 "children" z_s6 .null := D13 (Or.inr (z_w hw 70 rfl)) (ty := (.object z_s0)) (by decide)
  have do7 : Fld Z h13 b13 z_s3 "name" z_s5 .null := D13 (Or.inl (z_w hw 73 rfl)) (ty := (.object z_s2)) (by decide)
  have de4 : Fld Z h13 b13 z_s3 "index" "I" (.int (0 : Int32)) := D13 (Or.inl (z_w hw 75 rfl)) (ty := .int) (by decide)
  refine an1 (fun _ => st13 _) ?_
  show aa0 p e below P (T13.setTop (mkF m 79 #[.val (.ref o0), .val (.ref o1), .val (.int (ax0 false k)), .val .null] [(.ref b13)]))
  refine bi0 X13 hx (hb hby cb6) rfl ?_
  refine co7 X13 hx hZ (y := (⟨z_s3, "<init>", "()V"⟩ : MethodName)) rfl hown (z_w hw 49 rfl) (z_w hw 50 rfl) (z_w hw 48 rfl) (z_w hw 51 rfl) (by decide) (du4 l Z a0 hw [] b13  h13 n0 (Nat.le_trans Z0 K13.1) A13 cf9 do7 de4 co5) 1 (by decide) (by decide) e13 (by decide) (by decide) (g := (mkF m 80 #[.val (.ref o0), .val (.ref o1), .val (.int (ax0 false k)), .val .null] [(.ref b13), (.ref b13)])) rfl (by rw [hml']; rfl) (a := b13) (argsL := []) (rest := [(.ref b13)]) rfl (lenOf as2 rfl) rfl (by show 2 * 0 + _ ≤ _; exact Nat.le_of_eq rfl) (hb hby cc6) (fun r26 T26 L26 X26 hQ26 => ?_)
  obtain ⟨b2_26, b2_4_26, b7_4_26, b15_4_26, rfl, Nq26, Kq26, bw0, cx9, af9, el5, ag9, em5, ac8, eb5, eo3, ep3, ej1, ev1, dw7, dx7, f0_26, f1_26, f2_26, f3_26, f4_26, f5_26, f6_26, f7_26, f8_26, f9_26, f10_26, f11_26, f12_26, f13_26⟩ := hQ26
  have N26 := Fr.app N5 Nq26
  have G27 := (G15.ext E13)
  have ne28 := z_nc G27.lt bw0
  have ne29 := z_nc G27.lt af9
  have ne30 := z_nc G27.lt ag9
  have ne31 := z_nc G27.lt ac8
  have ne32 := z_nc A13.lt bw0
  have ne33 := z_nc A13.lt af9
  have ne34 := z_nc A13.lt ag9
  have ne35 := z_nc A13.lt ac8
  have G36 := (G17.ext E13)
  have ne37 := z_nc G36.lt bw0
  have ne38 := z_nc G36.lt af9
  have ne39 := z_nc G36.lt ag9
  have ne40 := z_nc G36.lt ac8
  have G41 := (f10_5.ext E13)
  have ne42 := z_nc G41.lt bw0
  have ne43 := z_nc G41.lt af9
  have ne44 := z_nc G41.lt ag9
  have ne45 := z_nc G41.lt ac8
  have G46 := (f0_5.ext E13)
  have ne47 := z_nc G46.lt bw0
  have ne48 := z_nc G46.lt af9
  have ne49 := z_nc G46.lt ag9
  have ne50 := z_nc G46.lt ac8
  have G51 := (G10.ext E13)
  have ne52 := z_nc G51.lt bw0
  have ne53 := z_nc G51.lt af9
  have ne54 := z_nc G51.lt ag9
  have ne55 := z_nc G51.lt ac8
  have G56 := (G22.ext E13)
  have ne57 := z_nc G56.lt bw0
  have ne58 := z_nc G56.lt af9
  have ne59 := z_nc G56.lt ag9
  have ne60 := z_nc G56.lt ac8
  have G61 := (f8_5.ext E13)
  have ne62 := z_nc G61.lt bw0
  have ne63 := z_nc G61.lt af9
  have ne64 := z_nc G61.lt ag9
  have ne65 := z_nc G61.lt ac8
  have G66 := (f7_5.ext E13)
  have ne67 := z_nc G66.lt bw0
  have ne68 := z_nc G66.lt af9
  have ne69 := z_nc G66.lt ag9
  have ne70 := z_nc G66.lt ac8
  have G71 := (f9_5.ext E13)
  have ne72 := z_nc G71.lt bw0
  have ne73 := z_nc G71.lt af9
  have ne74 := z_nc G71.lt ag9
  have ne75 := z_nc G71.lt ac8
  have dd1 := Nat.le_trans K13.1 bw0
  have eb6 := Nat.le_trans K13.1 af9
  have ec6 := Nat.le_trans K13.1 ag9
  have en5 := Nat.le_trans K13.1 ac8
  have K26 := Keep.trans K13 Kq26 (allS (Or.inr cj8) all0)
  show aa0 p e below P (T26.setTop (mkF m 83 #[.val (.ref o0), .val (.ref o1), .val (.int (ax0 false k)), .val .null] [(.ref b13)]))
  refine bj2 X26 hx (hb hby cd6) rfl (l' := #[.val (.ref o0), .val (.ref o1), .val (.int (ax0 false k)), .val (.ref b13)]) rfl ?_
  refine ae0 X26 hx (hb hby ce6) rfl rfl ?_
  have G76 := ((G8.ext E13).keep Kq26 (ninS ne16 nin0))
  refine au0 X26 hx hZ hown (host := "") (Or.inl (z_w hw 35 rfl)) Via.refl rfl G76 (hb hby cf6) (fun T77 X77 e77 => ?_)
  refine ae0 X77 hx (hb hby cg6) rfl rfl ?_
  have G78 := ((G6.ext E13).keep Kq26 (ninS ne16 nin0))
  refine au0 X77 hx hZ hown (host := "") (Or.inl (z_w hw 45 rfl)) Via.refl e77 G78 (hb hby ch6) (fun T79 X79 e79 => ?_)
  refine ae0 X79 hx (hb hby ci6) rfl rfl ?_
  have G80 := (G51.keep Kq26 (ninS ne20 nin0))
  refine bf8 X79 hx hZ e79 G80 (j := (1 : Int32)) (v := (.ref b13)) (i := 1) (by decide) (by rw [hll]; decide) (Or.inr ⟨_, rfl, Ins.self f0_26⟩) (hb hby cj6) (fun T81 h81 X81 e81 W81 B81 => ?_)
  have A81 : (ac2 z_s3) Z h81 as0 (Lv.set 1 (.ref b13)) := B81
  have N81 := Fr.snoc X81 N26 br9
  have K81 := Keep.wr K26 W81 (Or.inl (List.mem_of_getElem? (i := 1) rfl))
  refine ae0 X81 hx (hb hby bb6) rfl rfl ?_
  refine ae0 X81 hx (hb hby bc6) rfl rfl ?_
  have G82 := (f2_26.other W81 (Or.inl ne20.symm))
  have G83 := (f0_26.wr W81)
  obtain ⟨T84, h84, X84, e84, W84, st84⟩ := be1 X81 hx hZ hown (z_w hw 72 rfl) Via.refl e81 G82 G83 ((z_w hw 73 rfl)) (z_w hw 47 rfl) (ty := (.object z_s2)) (by decide) rfl rfl (g := (mkF m 96 #[.val (.ref o0), .val (.ref o1), .val (.int (ax0 false k)), .val (.ref b13)] [(.ref o1), (.ref b13)])) rfl rfl (hb hby bd6)
  have N84 := Fr.snoc X84 N81 co5
  have K84 := Keep.wr K81 W84 (Or.inr cj8)
  have F84 := G82.same W84
  refine an1 (fun _ => st84 _) ?_
  show aa0 p e below P (T84.setTop (mkF m 99 #[.val (.ref o0), .val (.ref o1), .val (.int (ax0 false k)), .val (.ref b13)] []))
  refine ae0 X84 hx (hb hby be6) rfl rfl ?_
  refine ae1 X84 hx (hb hby bx3) rfl ?_
  have G85 := ((f3_26.other W81 (Or.inl ne20.symm)).other W84 (Or.inr (slot_ne (Or.inl (z_w hw 75 rfl)) (Or.inl (z_w hw 73 rfl)) (by decide) (t := .int) (t' := (.object z_s2)) (by decide) (by decide))))
  have G86 := (G83.wr W84)
  obtain ⟨T87, h87, X87, e87, W87, st87⟩ := be1 X84 hx hZ hown (z_w hw 74 rfl) Via.refl e84 G85 G86 ((z_w hw 75 rfl)) (z_w hw 47 rfl) (ty := .int) (by decide) rfl rfl (g := (mkF m 101 #[.val (.ref o0), .val (.ref o1), .val (.int (ax0 false k)), .val (.ref b13)] [(.int (ax0 false k)), (.ref b13)])) rfl rfl (hb hby by3)
  have N87 := Fr.snoc X87 N84 co5
  have K87 := Keep.wr K84 W87 (Or.inr cj8)
  have F87 := G85.same W87
  refine an1 (fun _ => st87 _) ?_
  show aa0 p e below P (T87.setTop (mkF m 104 #[.val (.ref o0), .val (.ref o1), .val (.int (ax0 false k)), .val (.ref b13)] []))
  refine ae0 X87 hx (hb hby bz3) rfl rfl ?_
  have G88 := (((f1_26.other W81 (Or.inl ne20.symm)).other W84 (Or.inr (slot_ne (Or.inr (z_w hw 70 rfl)) (Or.inl (z_w hw 73 rfl)) (by decide) (t := (.object z_s0)) (t' := (.object z_s2)) (by decide) (by decide)))).other W87 (Or.inr (slot_ne (Or.inr (z_w hw 70 rfl)) (Or.inl (z_w hw 75 rfl)) (by decide) (t := (.object z_s0)) (t' := .int) (by decide) (by decide))))
  obtain ⟨T89, X89, e89, st89⟩ := bl0 X87 hx hZ hown (z_w hw 76 rfl) Via.refl e87 G88 (g := (mkF m 105 #[.val (.ref o0), .val (.ref o1), .val (.int (ax0 false k)), .val (.ref b13)] [(.ref b13)])) rfl rfl (hb hby b4)
  refine an1 (fun _ => st89 _) ?_
  show aa0 p e below P (T89.setTop (mkF m 108 #[.val (.ref o0), .val (.ref o1), .val (.int (ax0 false k)), .val (.ref b13)] [(.ref b2_26)]))
  have G91 := (((f4_26.wr W81).wr W84).wr W87)
  have G92 := (((f8_26.other W81 (Or.inl ne52.symm)).other W84 (Or.inl ne32.symm)).other W87 (Or.inl ne32.symm))
  have G93 := (((f9_26.other W81 (Or.inl ne52.symm)).other W84 (Or.inl ne32.symm)).other W87 (Or.inl ne32.symm))
  refine az1 X89 hx hZ (y := (⟨z_s0, "clear", "()V"⟩ : MethodName)) (z := (⟨z_s0, "clear", "()V"⟩ : MethodName)) hown (z_w hw 77 rfl) (z_w hw 78 rfl) (notFace_of_selects (args := #[]) (mvT hZ (z_w hw 80 rfl))) (z_w hw 80 rfl) (z_w hw 79 rfl) (z_w hw 55 rfl) (z_w hw 81 rfl) G91 (cs3 l Z a0 hw [] b2_26  h87 n0 (Nat.le_trans Z0 K87.1) G91 G92 G93 cx9) 0 e89 hml' (argsL := []) (rest := []) (lenOf as2 rfl) (hb hby ba4) (fun r90 T90 L90 X90 hQ90 => ?_)
  obtain ⟨rfl, Nq90, Kq90, f0_90, f1_90, f2_90⟩ := hQ90
  have N90 := Fr.app N87 Nq90
  have K90 := Keep.trans K87 Kq90 (allS (Or.inr dd1) all0)
  show aa0 p e below P (T90.setTop (mkF m 111 #[.val (.ref o0), .val (.ref o1), .val (.int (ax0 false k)), .val (.ref b13)] []))
  refine ae0 X90 hx (hb hby bb4) rfl rfl ?_
  refine ae0 X90 hx (hb hby bc4) rfl rfl ?_
  have G94 := (((((((ax5.keep Kq5 (ninS aq0 (ninS ab2 (ninS ac1 (ninS ai2 (ninS ap0 nin0)))))).ext E13).keep Kq26 (ninS ne16 nin0)).other W81 (Or.inl ak4)).other W84 (Or.inl ne16)).other W87 (Or.inl ne16)).keep Kq90 (ninS ne37 nin0))
  refine au0 X90 hx hZ hown (host := "") (Or.inl (z_w hw 86 rfl)) Via.refl rfl G94 (hb hby bd4) (fun T95 X95 e95 => ?_)
  refine ae0 X95 hx (hb hby be4) rfl rfl ?_
  have G96 := ((((G78.other W81 (Or.inl ak4)).other W84 (Or.inl ne16)).other W87 (Or.inl ne16)).keep Kq90 (ninS ne37 nin0))
  refine au0 X95 hx hZ hown (host := "") (Or.inl (z_w hw 45 rfl)) Via.refl e95 G96 (hb hby bf4) (fun T97 X97 e97 => ?_)
  refine as5 X97 hx hZ (y := (⟨"java/lang/Math", "min", "(II)I"⟩ : MethodName)) hown (z_w hw 88 rfl) (z_w hw 89 rfl) (z_w hw 90 rfl) (z_w hw 91 rfl) (cc0 l Z a0 hw [] (0 : Int32) (1 : Int32)  T90.heap n0 (Nat.le_trans Z0 K90.1) ) 1 e97 hml' (argsL := [(.int (0 : Int32)), (.int (1 : Int32))]) (rest := [(.ref o0)]) (lenOf bb1 rfl) (hb hby bg4) (fun r98 T98 L98 X98 hQ98 => ?_)
  obtain ⟨rfl, Nq98, eq98⟩ := hQ98
  have N98 := Fr.app N90 Nq98
  show aa0 p e below P (T98.setTop (mkF m 123 #[.val (.ref o0), .val (.ref o1), .val (.int (ax0 false k)), .val (.ref b13)] [(.int (al9 (0 : Int32) (1 : Int32))), (.ref o0)]))
  rw [show (al9 (0 : Int32) (1 : Int32)) = (0 : Int32) from by decide]
  show aa0 p e below P (T98.setTop (mkF m 123 #[.val (.ref o0), .val (.ref o1), .val (.int (ax0 false k)), .val (.ref b13)] [(.int (0 : Int32)), (.ref o0)]))
  have G99 := (((((G36.keep Kq26).wr W81).wr W84).wr W87).keep Kq90)
  refine am4 X98 hx hZ hown (host := "") (Or.inl (z_w hw 86 rfl)) Via.refl eq98 G94 G99 (Or.inl (z_w hw 87 rfl)) (z_w hw 27 rfl) (ty := .int) (by decide) (hb hby bh4) (fun T100 h100 X100 e100 W100 => ?_)
  have N100 := Fr.snoc X100 N98 ah2
  have K100 := Keep.wr K90 W100 (Or.inl (List.mem_of_getElem? (i := 0) rfl))
  have F100 := G94.same W100
  refine ae0 X100 hx (hb hby bi4) rfl rfl ?_
  refine bi0 X100 hx (hb hby bj4) rfl ?_
  have G101 := (G96.other W100 (Or.inr (slot_ne (Or.inl (z_w hw 46 rfl)) (Or.inl (z_w hw 87 rfl)) (by decide) (t := .int) (t' := .int) (by decide) (by decide))))
  refine au0 X100 hx hZ hown (host := "") (Or.inl (z_w hw 45 rfl)) Via.refl e100 G101 (hb hby bk4) (fun T102 X102 e102 => ?_)
  refine az0 X102 hx (hb hby bl4) (z := (1 : Int32)) rfl ?_
  refine ad6 X102 hx (hb hby bm4) (z := (2 : Int32)) rfl ?_
  have G103 := (G99.wr W100)
  refine am4 X102 hx hZ hown (host := "") (Or.inl (z_w hw 45 rfl)) Via.refl e102 G101 G103 (Or.inl (z_w hw 46 rfl)) (z_w hw 27 rfl) (ty := .int) (by decide) (hb hby bn4) (fun T104 h104 X104 e104 W104 => ?_)
  have N104 := Fr.snoc X104 N100 ah2
  have K104 := Keep.wr K100 W104 (Or.inl (List.mem_of_getElem? (i := 0) rfl))
  have F104 := G101.same W104
  have G105 := (G103.wr W104)
  have G106 := (((((((G46.keep Kq26).wr W81).wr W84).wr W87).keep Kq90).wr W100).wr W104)
  have G107 := (((((((G41.keep Kq26).wr W81).wr W84).wr W87).keep Kq90).wr W100).wr W104)
  have G108 := ((((((G76.other W81 (Or.inl ak4)).other W84 (Or.inl ne16)).other W87 (Or.inl ne16)).keep Kq90 (ninS ne37 nin0)).other W100 (Or.inr (slot_ne (Or.inl (z_w hw 36 rfl)) (Or.inl (z_w hw 87 rfl)) (by decide) (t := (.array (.object z_s3))) (t' := .int) (by decide) (by decide)))).other W104 (Or.inr (slot_ne (Or.inl (z_w hw 36 rfl)) (Or.inl (z_w hw 46 rfl)) (by decide) (t := (.array (.object z_s3))) (t' := .int) (by decide) (by decide))))
  have G109 := (F100.other W104 (Or.inr (slot_ne (Or.inl (z_w hw 87 rfl)) (Or.inl (z_w hw 46 rfl)) (by decide) (t := .int) (t' := .int) (by decide) (by decide))))
  have G110 := ((((((((f1_5.ext E13).keep Kq26 (ninS ne19 nin0)).other W81 (Or.inl aa5.symm)).other W84 (Or.inl ne19)).other W87 (Or.inl ne19)).keep Kq90 (ninS ne47 nin0)).other W100 (Or.inl aq0.symm)).other W104 (Or.inl aq0.symm))
  have G111 := ((((((((f2_5.ext E13).keep Kq26 (ninS ne19 nin0)).other W81 (Or.inl aa5.symm)).other W84 (Or.inl ne19)).other W87 (Or.inl ne19)).keep Kq90 (ninS ne47 nin0)).other W100 (Or.inl aq0.symm)).other W104 (Or.inl aq0.symm))
  have G112 := ((((((((f3_5.ext E13).keep Kq26 (ninS ne19 nin0)).other W81 (Or.inl aa5.symm)).other W84 (Or.inl ne19)).other W87 (Or.inl ne19)).keep Kq90 (ninS ne47 nin0)).other W100 (Or.inl aq0.symm)).other W104 (Or.inl aq0.symm))
  have G113 := ((((((((f4_5.ext E13).keep Kq26 (ninS ne19 nin0)).other W81 (Or.inl aa5.symm)).other W84 (Or.inl ne19)).other W87 (Or.inl ne19)).keep Kq90 (ninS ne47 nin0)).other W100 (Or.inl aq0.symm)).other W104 (Or.inl aq0.symm))
  have G114 := ((((((((f5_5.ext E13).keep Kq26 (ninS ne19 nin0)).other W81 (Or.inl aa5.symm)).other W84 (Or.inl ne19)).other W87 (Or.inl ne19)).keep Kq90 (ninS ne47 nin0)).other W100 (Or.inl aq0.symm)).other W104 (Or.inl aq0.symm))
  have G115 := ((((((((f6_5.ext E13).keep Kq26 (ninS ne19 nin0)).other W81 (Or.inl aa5.symm)).other W84 (Or.inl ne19)).other W87 (Or.inl ne19)).keep Kq90 (ninS ne47 nin0)).other W100 (Or.inl aq0.symm)).other W104 (Or.inl aq0.symm))
  have G116 := ((((((((f11_5.ext E13).keep Kq26 (ninS ne18 nin0)).other W81 (Or.inl bj1.symm)).other W84 (Or.inl ne18)).other W87 (Or.inl ne18)).keep Kq90 (ninS ne42 nin0)).other W100 (Or.inl ap0.symm)).other W104 (Or.inl ap0.symm))
  have G117 := ((((((((f12_5.ext E13).keep Kq26 (ninS ne18 nin0)).other W81 (Or.inl bj1.symm)).other W84 (Or.inl ne18)).other W87 (Or.inl ne18)).keep Kq90 (ninS ne42 nin0)).other W100 (Or.inl ap0.symm)).other W104 (Or.inl ap0.symm))
  have G118 := ((((((((f13_5.ext E13).keep Kq26 (ninS ne18 nin0)).other W81 (Or.inl bj1.symm)).other W84 (Or.inl ne18)).other W87 (Or.inl ne18)).keep Kq90 (ninS ne42 nin0)).other W100 (Or.inl ap0.symm)).other W104 (Or.inl ap0.symm))
  have G119 := ((((((((f14_5.ext E13).keep Kq26 (ninS ne18 nin0)).other W81 (Or.inl bj1.symm)).other W84 (Or.inl ne18)).other W87 (Or.inl ne18)).keep Kq90 (ninS ne42 nin0)).other W100 (Or.inl ap0.symm)).other W104 (Or.inl ap0.symm))
  have G120 := (((((A81.other W84 ne20).other W87 ne20).keep Kq90 (ninS ne52 nin0)).other W100 ak4.symm).other W104 ak4.symm)
  have G121 := (((((((G66.keep Kq26 (ninS ne24 nin0)).other W81 bv0.symm).other W84 ne24).other W87 ne24).keep Kq90 (ninS ne67 nin0)).other W100 ab2.symm).other W104 ab2.symm)
  have G122 := (((((((G61.keep Kq26 (ninS ne23 nin0)).other W81 bs0.symm).other W84 ne23).other W87 ne23).keep Kq90 (ninS ne62 nin0)).other W100 ac1.symm).other W104 ac1.symm)
  have G123 := (((((((G71.keep Kq26 (ninS ne25 nin0)).other W81 bc1.symm).other W84 ne25).other W87 ne25).keep Kq90 (ninS ne72 nin0)).other W100 ai2.symm).other W104 ai2.symm)
  have G124 := ((((G86.wr W87).keep Kq90).wr W100).wr W104)
  have G125 := (((G88.keep Kq90 (ninS ne32 nin0)).other W100 (Or.inl ne16.symm)).other W104 (Or.inl ne16.symm))
  have G126 := ((((F84.other W87 (Or.inr (slot_ne (Or.inl (z_w hw 73 rfl)) (Or.inl (z_w hw 75 rfl)) (by decide) (t := (.object z_s2)) (t' := .int) (by decide) (by decide)))).keep Kq90 (ninS ne32 nin0)).other W100 (Or.inl ne16.symm)).other W104 (Or.inl ne16.symm))
  have G127 := (((F87.keep Kq90 (ninS ne32 nin0)).other W100 (Or.inl ne16.symm)).other W104 (Or.inl ne16.symm))
  have G128 := ((f0_90.wr W100).wr W104)
  have G129 := ((f1_90.other W100 (Or.inl ne37.symm)).other W104 (Or.inl ne37.symm))
  have G130 := ((f2_90.other W100 (Or.inl ne37.symm)).other W104 (Or.inl ne37.symm))
  have hfin : ((fun (v : Option Value) (h : Heap) (L : List Loc) => ∃ (b13 : Addr) (b2_26 : Addr), v = none ∧ Fr n0 L ∧ Keep h0 h [o0, as0, af0, ai0, ad0, al0, o1] ∧ h0.size ≤ b13 ∧ n0 ≤ b13 ∧ h0.size ≤ b2_26 ∧ n0 ≤ b2_26 ∧ b13 ≠ b2_26 ∧ Exa Z h o0 z_s1 ∧ Exa Z h af0 z_s0 ∧ Exa Z h o1 z_s2 ∧ Fld Z h o0 z_s1 "levels" z_s4 (.ref as0) ∧ Fld Z h o0 z_s1 "depth" "I" (.int (2 : Int32)) ∧ Fld Z h o0 z_s1 "written" "I" (.int (0 : Int32)) ∧ Fld Z h af0 z_s0 "names" z_s8 (.ref ai0) ∧ Fld Z h af0 z_s0 "counts" "[I" (.ref ad0) ∧ Fld Z h af0 z_s0 "used" "[I" (.ref al0) ∧ Fld Z h af0 z_s0 "size" "I" (.int (ac5 false ax1)) ∧ Fld Z h af0 z_s0 "last" z_s5 (.ref o1) ∧ Fld Z h af0 z_s0 "lastSlot" "I" (.int (ac0 c0)) ∧ Fld Z h o1 z_s2 "value" "[B" (.ref am0) ∧ Fld Z h o1 z_s2 "coder" "B" (.int (0 : Int32)) ∧ Fld Z h o1 z_s2 "hash" "I" (.int (ak1 c0)) ∧ Fld Z h o1 z_s2 "hashIsZero" "Z" (.int (aj6 (ak1 c0))) ∧ (ac2 z_s3) Z h as0 (Lv.set 1 (.ref b13)) ∧ (ac2 z_s2) Z h ai0 (ap4 false N (ah0 (ac0 c0)) o1) ∧ ah1 Z h ad0 (ai3 false Cn (ah0 (ac0 c0)) k) ∧ ah1 Z h al0 (ap6 false U (ah0 ax1) (ac0 c0)) ∧ Exa Z h b13 z_s3 ∧ Fld Z h b13 z_s3 "children" z_s6 (.ref b2_26) ∧ Fld Z h b13 z_s3 "name" z_s5 (.ref o1) ∧ Fld Z h b13 z_s3 "index" "I" (.int (ax0 false k)) ∧ Exa Z h b2_26 z_s0 ∧ Fld Z h b2_26 z_s0 "size" "I" (.int (0 : Int32)) ∧ Fld Z h b2_26 z_s0 "last" z_s5 .null)) none h104 _ := ⟨b13, b2_26, rfl, N104, K104, cj8, co5, dd1, cx9, ne32, G105, G106, G107, G108, F104, G109, G110, G111, G112, G113, G114, G115, G116, G117, G118, G119, G120, G121, G122, G123, G124, G125, G126, G127, G128, G129, G130⟩
  refine bj0 X104 hx hlk hP hrt (hb hby bo4) (by decide) (by decide) ?_
  rw [e104]; exact hfin
theorem er3 (m : MethodId) (o0 : Addr) (o1 : Addr) : entryFrame m #[(.ref o0), (.ref o1)] 4 = mkF m 0 #[.val (.ref o0), .val (.ref o1), .unset, .unset] [] := by first | (simp [entryFrame, mkF, argsToLocals, Value.category]; done) | rfl
set_option maxRecDepth 65536 in
set_option maxHeartbeats 40000000 in
theorem ci2 (l : Launch) (Z : State) (a0 : Array Value) (hw : ∀ d ∈ tables_1, d.before a0 Z = true) (ws : List Jvm.Cond) (o0 : Addr) (o1 : Addr) (L0 : Addr) (L1 : Addr) (Lv : List Value) (Cn : List Int32) (k : Int32) (as0 : Addr) (af0 : Addr) (ak0 : Addr) (bq6 : Addr) (ay9 : Int32) (ad0 : Addr) (af2 : Int32) (h0 : Heap) (n0 : Nat) (Z0 : n0 ≤ h0.size) (E_o0 : Exa Z h0 o0 z_s1) (E_L0 : Exa Z h0 L0 z_s3) (al5 : Exa Z h0 af0 z_s0) (E_L1 : Exa Z h0 L1 z_s3) (az9 : Exa Z h0 ak0 z_s0) (az3 : Fld Z h0 o0 z_s1 "levels" z_s4 (.ref as0)) (au2 : Fld Z h0 o0 z_s1 "depth" "I" (.int (1 : Int32))) (ax5 : Fld Z h0 o0 z_s1 "written" "I" (.int (0 : Int32))) (aj9 : Fld Z h0 L0 z_s3 "children" z_s6 (.ref af0)) (bf1 : Fld Z h0 L1 z_s3 "children" z_s6 (.ref ak0)) (br6 : Fld Z h0 L1 z_s3 "name" z_s5 (.ref bq6)) (bl1 : Fld Z h0 L1 z_s3 "index" "I" (.int ay9)) (af7 : Fld Z h0 ak0 z_s0 "size" "I" (.int (0 : Int32))) (ag7 : Fld Z h0 ak0 z_s0 "last" z_s5 .null) (ag5 : Fld Z h0 af0 z_s0 "counts" "[I" (.ref ad0)) (ap5 : Fld Z h0 af0 z_s0 "last" z_s5 (.ref o1)) (aw4 : Fld Z h0 af0 z_s0 "lastSlot" "I" (.int af2)) (ar3 : (ac2 z_s3) Z h0 as0 Lv) (ax4 : ah1 Z h0 ad0 Cn) (ah2 : n0 ≤ o0) (bs6 : n0 ≤ L1) (av8 : n0 ≤ ak0) (an4 : n0 ≤ ad0) (aq2 : o0 ≠ L1) (at1 : o0 ≠ ak0) (ac1 : o0 ≠ ad0) (au1 : L1 ≠ ak0) (am1 : L1 ≠ ad0) (ap1 : ak0 ≠ ad0) (cg4 : o0 ≠ L0) (aq0 : o0 ≠ af0) (ak4 : o0 ≠ as0) (ch7 : L1 ≠ L0) (av0 : L1 ≠ af0) (bo7 : L1 ≠ as0) (bh6 : ak0 ≠ L0) (ad1 : ak0 ≠ af0) (bo0 : ak0 ≠ as0) (ai8 : ad0 ≠ L0) (bc5 : ad0 ≠ af0) (aa4 : ad0 ≠ as0) (hl : af2.toInt = (ah0 af2 : Int)) (hk : Cn[ah0 af2]? = some k) (hl0 : Lv[0]? = some (.ref L0)) (hl1 : Lv[1]? = some (.ref L1)) (hll : Lv.length = 16) :
    ab3 l Z (⟨z_s1, "enter", z_s7⟩ : MethodName) prog_126_method_2_code 4 none ws ({ frames := 3, cells := 0, slots := 0, locals := 44 } : Room) #[(.ref o0), (.ref o1)] h0 (fun (v : Option Value) (h : Heap) (L : List Loc) => v = none ∧ Fr n0 L ∧ Keep h0 h [o0, L1, ak0, ad0] ∧ Exa Z h o0 z_s1 ∧ Exa Z h L1 z_s3 ∧ Exa Z h ak0 z_s0 ∧ Fld Z h o0 z_s1 "levels" z_s4 (.ref as0) ∧ Fld Z h o0 z_s1 "depth" "I" (.int (2 : Int32)) ∧ Fld Z h o0 z_s1 "written" "I" (.int (0 : Int32)) ∧ Fld Z h L1 z_s3 "children" z_s6 (.ref ak0) ∧ Fld Z h L1 z_s3 "name" z_s5 (.ref o1) ∧ Fld Z h L1 z_s3 "index" "I" (.int (k + (1 : Int32))) ∧ Fld Z h ak0 z_s0 "size" "I" (.int (0 : Int32)) ∧ Fld Z h ak0 z_s0 "last" z_s5 .null ∧ ah1 Z h ad0 (Cn.set (ah0 af2) (k + (1 : Int32)))) := by
  refine al3 (plainFor_of_name ar1) ?_
  intro p e s m below meth c s₁ P hx hby hml hrt hlk hown hnm hZ X0 e0 hP
  have N0 := Fr.nil n0
  have K0 := Keep.refl h0 [o0, L1, ak0, ad0]
  have hml' : c.maxLocals = 4 := hml
  refine ac4 (er3 m o0 o1) ?_
  show aa0 p e below P (s₁.setTop (mkF m 0 #[.val (.ref o0), .val (.ref o1), .unset, .unset] []))
  refine ae0 X0 hx (hb hby bg7) rfl rfl ?_
  refine au0 X0 hx hZ hown (host := "") (Or.inl (z_w hw 45 rfl)) Via.refl e0 au2 (hb hby bh7) (fun T1 X1 e1 => ?_)
  refine al7 X1 hx (pc' := 11) (hb hby bi7) ((if0 _ _).trans (feq (by decide : ¬ ((1 : Int32) = (0 : Int32)))).2) ?_
  refine ae0 X1 hx (hb hby br7) rfl rfl ?_
  refine au0 X1 hx hZ hown (host := "") (Or.inl (z_w hw 35 rfl)) Via.refl e1 az3 (hb hby bs7) (fun T2 X2 e2 => ?_)
  refine ae0 X2 hx (hb hby bt7) rfl rfl ?_
  refine au0 X2 hx hZ hown (host := "") (Or.inl (z_w hw 45 rfl)) Via.refl e2 au2 (hb hby bu7) (fun T3 X3 e3 => ?_)
  refine az0 X3 hx (hb hby bv7) (z := (1 : Int32)) rfl ?_
  refine bt1 X3 hx (hb hby bw7) (z := (0 : Int32)) rfl ?_
  refine ay2 X3 hx hZ e3 ar3 (j := (0 : Int32)) (v := (.ref L0)) (i := 0) (by decide) hl0 (hb hby bx7) ?_
  obtain ⟨T4, X4, e4, st4⟩ := bl0 X3 hx hZ hown (z_w hw 76 rfl) Via.refl e3 aj9 (g := (mkF m 22 #[.val (.ref o0), .val (.ref o1), .unset, .unset] [(.ref L0)])) rfl rfl (hb hby by7)
  refine an1 (fun _ => st4 _) ?_
  show aa0 p e below P (T4.setTop (mkF m 25 #[.val (.ref o0), .val (.ref o1), .unset, .unset] [(.ref af0)]))
  refine ae0 X4 hx (hb hby bz7) rfl rfl ?_
  refine az1 X4 hx hZ (y := (⟨z_s0, "count", z_s9⟩ : MethodName)) (z := (⟨z_s0, "count", z_s9⟩ : MethodName)) hown (z_w hw 92 rfl) (z_w hw 93 rfl) (notFace_of_selects (args := #[]) (mvT hZ (z_w hw 95 rfl))) (z_w hw 95 rfl) (z_w hw 94 rfl) (z_w hw 55 rfl) (z_w hw 96 rfl) al5 (et4 l Z a0 hw [] af0 o1 Cn k ad0 af2 h0 n0 (Nat.le_trans Z0 K0.1) ag5 ap5 aw4 ax4 an4 bc5 hl hk) 0 e4 hml' (argsL := [(.ref o1)]) (rest := []) (lenOf af6 rfl) (hb hby b8) (fun r5 T5 L5 X5 hQ5 => ?_)
  obtain ⟨rfl, Nq5, Kq5, f0_5⟩ := hQ5
  have N5 := Fr.app N0 Nq5
  have K5 := Keep.trans K0 Kq5 (allS (Or.inl (List.mem_of_getElem? (i := 3) rfl)) all0)
  show aa0 p e below P (T5.setTop (mkF m 29 #[.val (.ref o0), .val (.ref o1), .unset, .unset] [(.int (k + (1 : Int32)))]))
  refine ag4 X5 hx (hb hby bm5) (l' := #[.val (.ref o0), .val (.ref o1), .val (.int (k + (1 : Int32))), .unset]) rfl ?_
  refine ae0 X5 hx (hb hby bn5) rfl rfl ?_
  have G6 := (au2.keep Kq5 (ninS ac1 nin0))
  refine au0 X5 hx hZ hown (host := "") (Or.inl (z_w hw 45 rfl)) Via.refl rfl G6 (hb hby bo5) (fun T7 X7 e7 => ?_)
  refine ae0 X7 hx (hb hby bp5) rfl rfl ?_
  have G8 := (az3.keep Kq5 (ninS ac1 nin0))
  refine au0 X7 hx hZ hown (host := "") (Or.inl (z_w hw 35 rfl)) Via.refl e7 G8 (hb hby bq5) (fun T9 X9 e9 => ?_)
  have G10 := (ar3.keep Kq5 (ninS aa4.symm nin0))
  refine ao9 X9 hx hZ e9 G10 (z := (16 : Int32)) (show Int32.ofNat Lv.length = (16 : Int32) from by rw [hll]; rfl) (hb hby br5) ?_
  refine au3 X9 hx (pc' := 62) (hb hby bs5) (feq (by decide : ¬ ((1 : Int32) = (16 : Int32)))).2 ?_
  refine ae0 X9 hx (hb hby bt5) rfl rfl ?_
  refine au0 X9 hx hZ hown (host := "") (Or.inl (z_w hw 35 rfl)) Via.refl e9 G8 (hb hby bu5) (fun T11 X11 e11 => ?_)
  refine ae0 X11 hx (hb hby bv5) rfl rfl ?_
  refine au0 X11 hx hZ hown (host := "") (Or.inl (z_w hw 45 rfl)) Via.refl e11 G6 (hb hby bw5) (fun T12 X12 e12 => ?_)
  refine ay2 X12 hx hZ e12 G10 (j := (1 : Int32)) (v := (.ref L1)) (i := 1) (by decide) hl1 (hb hby bx5) ?_
  refine bj2 X12 hx (hb hby by5) rfl (l' := #[.val (.ref o0), .val (.ref o1), .val (.int (k + (1 : Int32))), .val (.ref L1)]) rfl ?_
  refine ae0 X12 hx (hb hby bz5) rfl rfl ?_
  refine bf7 X12 hx (pc' := 94) (hb hby ba6) ?_
  refine ae0 X12 hx (hb hby bb6) rfl rfl ?_
  refine ae0 X12 hx (hb hby bc6) rfl rfl ?_
  have G13 := (br6.keep Kq5 (ninS am1 nin0))
  have G14 := (E_L1.keep Kq5)
  obtain ⟨T15, h15, X15, e15, W15, st15⟩ := be1 X12 hx hZ hown (z_w hw 72 rfl) Via.refl e12 G13 G14 ((z_w hw 73 rfl)) (z_w hw 47 rfl) (ty := (.object z_s2)) (by decide) rfl rfl (g := (mkF m 96 #[.val (.ref o0), .val (.ref o1), .val (.int (k + (1 : Int32))), .val (.ref L1)] [(.ref o1), (.ref L1)])) rfl rfl (hb hby bd6)
  have N15 := Fr.snoc X15 N5 bs6
  have K15 := Keep.wr K5 W15 (Or.inl (List.mem_of_getElem? (i := 1) rfl))
  have F15 := G13.same W15
  refine an1 (fun _ => st15 _) ?_
  show aa0 p e below P (T15.setTop (mkF m 99 #[.val (.ref o0), .val (.ref o1), .val (.int (k + (1 : Int32))), .val (.ref L1)] []))
  refine ae0 X15 hx (hb hby be6) rfl rfl ?_
  refine ae1 X15 hx (hb hby bx3) rfl ?_
  have G16 := ((bl1.keep Kq5 (ninS am1 nin0)).other W15 (Or.inr (slot_ne (Or.inl (z_w hw 75 rfl)) (Or.inl (z_w hw 73 rfl)) (by decide) (t := .int) (t' := (.object z_s2)) (by decide) (by decide))))
  have G17 := (G14.wr W15)
  obtain ⟨T18, h18, X18, e18, W18, st18⟩ := be1 X15 hx hZ hown (z_w hw 74 rfl) Via.refl e15 G16 G17 ((z_w hw 75 rfl)) (z_w hw 47 rfl) (ty := .int) (by decide) rfl rfl (g := (mkF m 101 #[.val (.ref o0), .val (.ref o1), .val (.int (k + (1 : Int32))), .val (.ref L1)] [(.int (k + (1 : Int32))), (.ref L1)])) rfl rfl (hb hby by3)
  have N18 := Fr.snoc X18 N15 bs6
  have K18 := Keep.wr K15 W18 (Or.inl (List.mem_of_getElem? (i := 1) rfl))
  have F18 := G16.same W18
  refine an1 (fun _ => st18 _) ?_
  show aa0 p e below P (T18.setTop (mkF m 104 #[.val (.ref o0), .val (.ref o1), .val (.int (k + (1 : Int32))), .val (.ref L1)] []))
  refine ae0 X18 hx (hb hby bz3) rfl rfl ?_
  have G19 := (((bf1.keep Kq5 (ninS am1 nin0)).other W15 (Or.inr (slot_ne (Or.inr (z_w hw 70 rfl)) (Or.inl (z_w hw 73 rfl)) (by decide) (t := (.object z_s0)) (t' := (.object z_s2)) (by decide) (by decide)))).other W18 (Or.inr (slot_ne (Or.inr (z_w hw 70 rfl)) (Or.inl (z_w hw 75 rfl)) (by decide) (t := (.object z_s0)) (t' := .int) (by decide) (by decide))))
  obtain ⟨T20, X20, e20, st20⟩ := bl0 X18 hx hZ hown (z_w hw 76 rfl) Via.refl e18 G19 (g := (mkF m 105 #[.val (.ref o0), .val (.ref o1), .val (.int (k + (1 : Int32))), .val (.ref L1)] [(.ref L1)])) rfl rfl (hb hby b4)
  refine an1 (fun _ => st20 _) ?_
  show aa0 p e below P (T20.setTop (mkF m 108 #[.val (.ref o0), .val (.ref o1), .val (.int (k + (1 : Int32))), .val (.ref L1)] [(.ref ak0)]))
  have G22 := (((az9.keep Kq5).wr W15).wr W18)
  have G23 := (((af7.keep Kq5 (ninS ap1 nin0)).other W15 (Or.inl au1.symm)).other W18 (Or.inl au1.symm))
  have G24 := (((ag7.keep Kq5 (ninS ap1 nin0)).other W15 (Or.inl au1.symm)).other W18 (Or.inl au1.symm))
  refine az1 X20 hx hZ (y := (⟨z_s0, "clear", "()V"⟩ : MethodName)) (z := (⟨z_s0, "clear", "()V"⟩ : MethodName)) hown (z_w hw 77 rfl) (z_w hw 78 rfl) (notFace_of_selects (args := #[]) (mvT hZ (z_w hw 80 rfl))) (z_w hw 80 rfl) (z_w hw 79 rfl) (z_w hw 55 rfl) (z_w hw 81 rfl) G22 (cs3 l Z a0 hw [] ak0  h18 n0 (Nat.le_trans Z0 K18.1) G22 G23 G24 av8) 0 e20 hml' (argsL := []) (rest := []) (lenOf as2 rfl) (hb hby ba4) (fun r21 T21 L21 X21 hQ21 => ?_)
  obtain ⟨rfl, Nq21, Kq21, f0_21, f1_21, f2_21⟩ := hQ21
  have N21 := Fr.app N18 Nq21
  have K21 := Keep.trans K18 Kq21 (allS (Or.inl (List.mem_of_getElem? (i := 2) rfl)) all0)
  show aa0 p e below P (T21.setTop (mkF m 111 #[.val (.ref o0), .val (.ref o1), .val (.int (k + (1 : Int32))), .val (.ref L1)] []))
  refine ae0 X21 hx (hb hby bb4) rfl rfl ?_
  refine ae0 X21 hx (hb hby bc4) rfl rfl ?_
  have G25 := ((((ax5.keep Kq5 (ninS ac1 nin0)).other W15 (Or.inl aq2)).other W18 (Or.inl aq2)).keep Kq21 (ninS at1 nin0))
  refine au0 X21 hx hZ hown (host := "") (Or.inl (z_w hw 86 rfl)) Via.refl rfl G25 (hb hby bd4) (fun T26 X26 e26 => ?_)
  refine ae0 X26 hx (hb hby be4) rfl rfl ?_
  have G27 := (((G6.other W15 (Or.inl aq2)).other W18 (Or.inl aq2)).keep Kq21 (ninS at1 nin0))
  refine au0 X26 hx hZ hown (host := "") (Or.inl (z_w hw 45 rfl)) Via.refl e26 G27 (hb hby bf4) (fun T28 X28 e28 => ?_)
  refine as5 X28 hx hZ (y := (⟨"java/lang/Math", "min", "(II)I"⟩ : MethodName)) hown (z_w hw 88 rfl) (z_w hw 89 rfl) (z_w hw 90 rfl) (z_w hw 91 rfl) (cc0 l Z a0 hw [] (0 : Int32) (1 : Int32)  T21.heap n0 (Nat.le_trans Z0 K21.1) ) 1 e28 hml' (argsL := [(.int (0 : Int32)), (.int (1 : Int32))]) (rest := [(.ref o0)]) (lenOf bb1 rfl) (hb hby bg4) (fun r29 T29 L29 X29 hQ29 => ?_)
  obtain ⟨rfl, Nq29, eq29⟩ := hQ29
  have N29 := Fr.app N21 Nq29
  show aa0 p e below P (T29.setTop (mkF m 123 #[.val (.ref o0), .val (.ref o1), .val (.int (k + (1 : Int32))), .val (.ref L1)] [(.int (al9 (0 : Int32) (1 : Int32))), (.ref o0)]))
  rw [show (al9 (0 : Int32) (1 : Int32)) = (0 : Int32) from by decide]
  show aa0 p e below P (T29.setTop (mkF m 123 #[.val (.ref o0), .val (.ref o1), .val (.int (k + (1 : Int32))), .val (.ref L1)] [(.int (0 : Int32)), (.ref o0)]))
  have G30 := ((((E_o0.keep Kq5).wr W15).wr W18).keep Kq21)
  refine am4 X29 hx hZ hown (host := "") (Or.inl (z_w hw 86 rfl)) Via.refl eq29 G25 G30 (Or.inl (z_w hw 87 rfl)) (z_w hw 27 rfl) (ty := .int) (by decide) (hb hby bh4) (fun T31 h31 X31 e31 W31 => ?_)
  have N31 := Fr.snoc X31 N29 ah2
  have K31 := Keep.wr K21 W31 (Or.inl (List.mem_of_getElem? (i := 0) rfl))
  have F31 := G25.same W31
  refine ae0 X31 hx (hb hby bi4) rfl rfl ?_
  refine bi0 X31 hx (hb hby bj4) rfl ?_
  have G32 := (G27.other W31 (Or.inr (slot_ne (Or.inl (z_w hw 46 rfl)) (Or.inl (z_w hw 87 rfl)) (by decide) (t := .int) (t' := .int) (by decide) (by decide))))
  refine au0 X31 hx hZ hown (host := "") (Or.inl (z_w hw 45 rfl)) Via.refl e31 G32 (hb hby bk4) (fun T33 X33 e33 => ?_)
  refine az0 X33 hx (hb hby bl4) (z := (1 : Int32)) rfl ?_
  refine ad6 X33 hx (hb hby bm4) (z := (2 : Int32)) rfl ?_
  have G34 := (G30.wr W31)
  refine am4 X33 hx hZ hown (host := "") (Or.inl (z_w hw 45 rfl)) Via.refl e33 G32 G34 (Or.inl (z_w hw 46 rfl)) (z_w hw 27 rfl) (ty := .int) (by decide) (hb hby bn4) (fun T35 h35 X35 e35 W35 => ?_)
  have N35 := Fr.snoc X35 N31 ah2
  have K35 := Keep.wr K31 W35 (Or.inl (List.mem_of_getElem? (i := 0) rfl))
  have F35 := G32.same W35
  have G36 := (G34.wr W35)
  have G37 := ((((G17.wr W18).keep Kq21).wr W31).wr W35)
  have G38 := ((f0_21.wr W31).wr W35)
  have G39 := (((((G8.other W15 (Or.inl aq2)).other W18 (Or.inl aq2)).keep Kq21 (ninS at1 nin0)).other W31 (Or.inr (slot_ne (Or.inl (z_w hw 36 rfl)) (Or.inl (z_w hw 87 rfl)) (by decide) (t := (.array (.object z_s3))) (t' := .int) (by decide) (by decide)))).other W35 (Or.inr (slot_ne (Or.inl (z_w hw 36 rfl)) (Or.inl (z_w hw 46 rfl)) (by decide) (t := (.array (.object z_s3))) (t' := .int) (by decide) (by decide))))
  have G40 := (F31.other W35 (Or.inr (slot_ne (Or.inl (z_w hw 87 rfl)) (Or.inl (z_w hw 46 rfl)) (by decide) (t := .int) (t' := .int) (by decide) (by decide))))
  have G41 := (((G19.keep Kq21 (ninS au1 nin0)).other W31 (Or.inl aq2.symm)).other W35 (Or.inl aq2.symm))
  have G42 := ((((F15.other W18 (Or.inr (slot_ne (Or.inl (z_w hw 73 rfl)) (Or.inl (z_w hw 75 rfl)) (by decide) (t := (.object z_s2)) (t' := .int) (by decide) (by decide)))).keep Kq21 (ninS au1 nin0)).other W31 (Or.inl aq2.symm)).other W35 (Or.inl aq2.symm))
  have G43 := (((F18.keep Kq21 (ninS au1 nin0)).other W31 (Or.inl aq2.symm)).other W35 (Or.inl aq2.symm))
  have G44 := ((f1_21.other W31 (Or.inl at1.symm)).other W35 (Or.inl at1.symm))
  have G45 := ((f2_21.other W31 (Or.inl at1.symm)).other W35 (Or.inl at1.symm))
  have G46 := (((((f0_5.other W15 am1.symm).other W18 am1.symm).keep Kq21 (ninS ap1.symm nin0)).other W31 ac1.symm).other W35 ac1.symm)
  have hfin : ((fun (v : Option Value) (h : Heap) (L : List Loc) => v = none ∧ Fr n0 L ∧ Keep h0 h [o0, L1, ak0, ad0] ∧ Exa Z h o0 z_s1 ∧ Exa Z h L1 z_s3 ∧ Exa Z h ak0 z_s0 ∧ Fld Z h o0 z_s1 "levels" z_s4 (.ref as0) ∧ Fld Z h o0 z_s1 "depth" "I" (.int (2 : Int32)) ∧ Fld Z h o0 z_s1 "written" "I" (.int (0 : Int32)) ∧ Fld Z h L1 z_s3 "children" z_s6 (.ref ak0) ∧ Fld Z h L1 z_s3 "name" z_s5 (.ref o1) ∧ Fld Z h L1 z_s3 "index" "I" (.int (k + (1 : Int32))) ∧ Fld Z h ak0 z_s0 "size" "I" (.int (0 : Int32)) ∧ Fld Z h ak0 z_s0 "last" z_s5 .null ∧ ah1 Z h ad0 (Cn.set (ah0 af2) (k + (1 : Int32))))) none h35 _ := ⟨rfl, N35, K35, G36, G37, G38, G39, F35, G40, G41, G42, G43, G44, G45, G46⟩
  refine bj0 X35 hx hlk hP hrt (hb hby bo4) (by decide) (by decide) ?_
  rw [e35]; exact hfin
theorem es3 (m : MethodId) (o0 : Addr) (o1 : Addr) : entryFrame m #[(.ref o0), (.ref o1)] 4 = mkF m 0 #[.val (.ref o0), .val (.ref o1), .unset, .unset] [] := by first | (simp [entryFrame, mkF, argsToLocals, Value.category]; done) | rfl
set_option maxRecDepth 65536 in
set_option maxHeartbeats 40000000 in
theorem eu4 (l : Launch) (Z : State) (a0 : Array Value) (hw : ∀ d ∈ tables_1, d.before a0 Z = true) (ws : List Jvm.Cond) (o0 : Addr) (o1 : Addr) (L0 : Addr) (L1 : Addr) (Lv : List Value) (c0 : Int32) (N : List Value) (Cn : List Int32) (k : Int32) (la : Addr) (as0 : Addr) (af0 : Addr) (ak0 : Addr) (bq6 : Addr) (ay9 : Int32) (ai0 : Addr) (ad0 : Addr) (al0 : Addr) (ax1 : Int32) (af2 : Int32) (h0 : Heap) (n0 : Nat) (Z0 : n0 ≤ h0.size) (E_o0 : Exa Z h0 o0 z_s1) (E_L0 : Exa Z h0 L0 z_s3) (al5 : Exa Z h0 af0 z_s0) (E_L1 : Exa Z h0 L1 z_s3) (az9 : Exa Z h0 ak0 z_s0) (E_o1 : Exa Z h0 o1 z_s2) (az3 : Fld Z h0 o0 z_s1 "levels" z_s4 (.ref as0)) (au2 : Fld Z h0 o0 z_s1 "depth" "I" (.int (1 : Int32))) (ax5 : Fld Z h0 o0 z_s1 "written" "I" (.int (0 : Int32))) (aj9 : Fld Z h0 L0 z_s3 "children" z_s6 (.ref af0)) (bf1 : Fld Z h0 L1 z_s3 "children" z_s6 (.ref ak0)) (br6 : Fld Z h0 L1 z_s3 "name" z_s5 (.ref bq6)) (bl1 : Fld Z h0 L1 z_s3 "index" "I" (.int ay9)) (af7 : Fld Z h0 ak0 z_s0 "size" "I" (.int (0 : Int32))) (ag7 : Fld Z h0 ak0 z_s0 "last" z_s5 .null) (as6 : Fld Z h0 af0 z_s0 "names" z_s8 (.ref ai0)) (ag5 : Fld Z h0 af0 z_s0 "counts" "[I" (.ref ad0)) (ad7 : Fld Z h0 af0 z_s0 "used" "[I" (.ref al0)) (ae7 : Fld Z h0 af0 z_s0 "size" "I" (.int ax1)) (ap5 : Fld Z h0 af0 z_s0 "last" z_s5 (.ref la)) (aw4 : Fld Z h0 af0 z_s0 "lastSlot" "I" (.int af2)) (an3 : Fld Z h0 o1 z_s2 "hash" "I" (.int (ak1 c0))) (aa2 : Fld Z h0 o1 z_s2 "hashIsZero" "Z" (.int (aj6 (ak1 c0)))) (ar3 : (ac2 z_s3) Z h0 as0 Lv) (ah6 : (ac2 z_s2) Z h0 ai0 N) (ax4 : ah1 Z h0 ad0 Cn) (ah2 : n0 ≤ o0) (bs6 : n0 ≤ L1) (av8 : n0 ≤ ak0) (au8 : n0 ≤ af0) (an4 : n0 ≤ ad0) (aq2 : o0 ≠ L1) (at1 : o0 ≠ ak0) (aq0 : o0 ≠ af0) (ac1 : o0 ≠ ad0) (au1 : L1 ≠ ak0) (av0 : L1 ≠ af0) (am1 : L1 ≠ ad0) (ad1 : ak0 ≠ af0) (ap1 : ak0 ≠ ad0) (as3 : af0 ≠ ad0) (cg4 : o0 ≠ L0) (ap0 : o0 ≠ o1) (ak4 : o0 ≠ as0) (ab2 : o0 ≠ ai0) (ch7 : L1 ≠ L0) (aq5 : L1 ≠ o1) (bo7 : L1 ≠ as0) (aa3 : L1 ≠ ai0) (bh6 : ak0 ≠ L0) (ae4 : ak0 ≠ o1) (bo0 : ak0 ≠ as0) (ac3 : ak0 ≠ ai0) (bg6 : af0 ≠ L0) (ap7 : af0 ≠ o1) (at6 : af0 ≠ as0) (av3 : af0 ≠ ai0) (ai8 : ad0 ≠ L0) (ab5 : ad0 ≠ o1) (aa4 : ad0 ≠ as0) (bf2 : ad0 ≠ ai0) (bn0 : o1 ≠ la) (hN : N.length = 16) (hCn : Cn.length = 16) (hp0 : N[ah0 (ac0 c0)]? = some (.ref o1)) (hk : Cn[ah0 (ac0 c0)]? = some k) (hl0 : Lv[0]? = some (.ref L0)) (hl1 : Lv[1]? = some (.ref L1)) (hll : Lv.length = 16) :
    ab3 l Z (⟨z_s1, "enter", z_s7⟩ : MethodName) prog_126_method_2_code 4 none ws ({ frames := 3, cells := 0, slots := 0, locals := 44 } : Room) #[(.ref o0), (.ref o1)] h0 (fun (v : Option Value) (h : Heap) (L : List Loc) => v = none ∧ Fr n0 L ∧ Keep h0 h [o0, L1, ak0, af0, ad0] ∧ Exa Z h o0 z_s1 ∧ Exa Z h af0 z_s0 ∧ Exa Z h L1 z_s3 ∧ Exa Z h ak0 z_s0 ∧ Fld Z h o0 z_s1 "levels" z_s4 (.ref as0) ∧ Fld Z h o0 z_s1 "depth" "I" (.int (2 : Int32)) ∧ Fld Z h o0 z_s1 "written" "I" (.int (0 : Int32)) ∧ Fld Z h L1 z_s3 "children" z_s6 (.ref ak0) ∧ Fld Z h L1 z_s3 "name" z_s5 (.ref o1) ∧ Fld Z h L1 z_s3 "index" "I" (.int (ax0 true k)) ∧ Fld Z h ak0 z_s0 "size" "I" (.int (0 : Int32)) ∧ Fld Z h ak0 z_s0 "last" z_s5 .null ∧ Fld Z h af0 z_s0 "names" z_s8 (.ref ai0) ∧ Fld Z h af0 z_s0 "counts" "[I" (.ref ad0) ∧ Fld Z h af0 z_s0 "used" "[I" (.ref al0) ∧ Fld Z h af0 z_s0 "size" "I" (.int (ac5 true ax1)) ∧ Fld Z h af0 z_s0 "last" z_s5 (.ref o1) ∧ Fld Z h af0 z_s0 "lastSlot" "I" (.int (ac0 c0)) ∧ ah1 Z h ad0 (ai3 true Cn (ah0 (ac0 c0)) k)) := by
  refine al3 (plainFor_of_name ar1) ?_
  intro p e s m below meth c s₁ P hx hby hml hrt hlk hown hnm hZ X0 e0 hP
  have N0 := Fr.nil n0
  have K0 := Keep.refl h0 [o0, L1, ak0, af0, ad0]
  have hml' : c.maxLocals = 4 := hml
  refine ac4 (es3 m o0 o1) ?_
  show aa0 p e below P (s₁.setTop (mkF m 0 #[.val (.ref o0), .val (.ref o1), .unset, .unset] []))
  refine ae0 X0 hx (hb hby bg7) rfl rfl ?_
  refine au0 X0 hx hZ hown (host := "") (Or.inl (z_w hw 45 rfl)) Via.refl e0 au2 (hb hby bh7) (fun T1 X1 e1 => ?_)
  refine al7 X1 hx (pc' := 11) (hb hby bi7) ((if0 _ _).trans (feq (by decide : ¬ ((1 : Int32) = (0 : Int32)))).2) ?_
  refine ae0 X1 hx (hb hby br7) rfl rfl ?_
  refine au0 X1 hx hZ hown (host := "") (Or.inl (z_w hw 35 rfl)) Via.refl e1 az3 (hb hby bs7) (fun T2 X2 e2 => ?_)
  refine ae0 X2 hx (hb hby bt7) rfl rfl ?_
  refine au0 X2 hx hZ hown (host := "") (Or.inl (z_w hw 45 rfl)) Via.refl e2 au2 (hb hby bu7) (fun T3 X3 e3 => ?_)
  refine az0 X3 hx (hb hby bv7) (z := (1 : Int32)) rfl ?_
  refine bt1 X3 hx (hb hby bw7) (z := (0 : Int32)) rfl ?_
  refine ay2 X3 hx hZ e3 ar3 (j := (0 : Int32)) (v := (.ref L0)) (i := 0) (by decide) hl0 (hb hby bx7) ?_
  obtain ⟨T4, X4, e4, st4⟩ := bl0 X3 hx hZ hown (z_w hw 76 rfl) Via.refl e3 aj9 (g := (mkF m 22 #[.val (.ref o0), .val (.ref o1), .unset, .unset] [(.ref L0)])) rfl rfl (hb hby by7)
  refine an1 (fun _ => st4 _) ?_
  show aa0 p e below P (T4.setTop (mkF m 25 #[.val (.ref o0), .val (.ref o1), .unset, .unset] [(.ref af0)]))
  refine ae0 X4 hx (hb hby bz7) rfl rfl ?_
  refine az1 X4 hx hZ (y := (⟨z_s0, "count", z_s9⟩ : MethodName)) (z := (⟨z_s0, "count", z_s9⟩ : MethodName)) hown (z_w hw 92 rfl) (z_w hw 93 rfl) (notFace_of_selects (args := #[]) (mvT hZ (z_w hw 95 rfl))) (z_w hw 95 rfl) (z_w hw 94 rfl) (z_w hw 55 rfl) (z_w hw 96 rfl) al5 (es4 l Z a0 hw [] af0 o1 c0 N Cn k la ai0 ad0 al0 ax1 af2 h0 n0 (Nat.le_trans Z0 K0.1) al5 E_o1 as6 ag5 ad7 ae7 ap5 aw4 an3 aa2 ah6 ax4 au8 an4 as3 av3 ap7 bf2 ab5 bn0 hN hCn hp0 hk) 0 e4 hml' (argsL := [(.ref o1)]) (rest := []) (lenOf af6 rfl) (hb hby b8) (fun r5 T5 L5 X5 hQ5 => ?_)
  obtain ⟨rfl, Nq5, Kq5, f0_5, f1_5, f2_5, f3_5, f4_5, f5_5, f6_5, f7_5⟩ := hQ5
  have N5 := Fr.app N0 Nq5
  have K5 := Keep.trans K0 Kq5 (allS (Or.inl (List.mem_of_getElem? (i := 3) rfl)) (allS (Or.inl (List.mem_of_getElem? (i := 4) rfl)) all0))
  show aa0 p e below P (T5.setTop (mkF m 29 #[.val (.ref o0), .val (.ref o1), .unset, .unset] [(.int (ax0 true k))]))
  refine ag4 X5 hx (hb hby bm5) (l' := #[.val (.ref o0), .val (.ref o1), .val (.int (ax0 true k)), .unset]) rfl ?_
  refine ae0 X5 hx (hb hby bn5) rfl rfl ?_
  have G6 := (au2.keep Kq5 (ninS aq0 (ninS ac1 nin0)))
  refine au0 X5 hx hZ hown (host := "") (Or.inl (z_w hw 45 rfl)) Via.refl rfl G6 (hb hby bo5) (fun T7 X7 e7 => ?_)
  refine ae0 X7 hx (hb hby bp5) rfl rfl ?_
  have G8 := (az3.keep Kq5 (ninS aq0 (ninS ac1 nin0)))
  refine au0 X7 hx hZ hown (host := "") (Or.inl (z_w hw 35 rfl)) Via.refl e7 G8 (hb hby bq5) (fun T9 X9 e9 => ?_)
  have G10 := (ar3.keep Kq5 (ninS at6.symm (ninS aa4.symm nin0)))
  refine ao9 X9 hx hZ e9 G10 (z := (16 : Int32)) (show Int32.ofNat Lv.length = (16 : Int32) from by rw [hll]; rfl) (hb hby br5) ?_
  refine au3 X9 hx (pc' := 62) (hb hby bs5) (feq (by decide : ¬ ((1 : Int32) = (16 : Int32)))).2 ?_
  refine ae0 X9 hx (hb hby bt5) rfl rfl ?_
  refine au0 X9 hx hZ hown (host := "") (Or.inl (z_w hw 35 rfl)) Via.refl e9 G8 (hb hby bu5) (fun T11 X11 e11 => ?_)
  refine ae0 X11 hx (hb hby bv5) rfl rfl ?_
  refine au0 X11 hx hZ hown (host := "") (Or.inl (z_w hw 45 rfl)) Via.refl e11 G6 (hb hby bw5) (fun T12 X12 e12 => ?_)
  refine ay2 X12 hx hZ e12 G10 (j := (1 : Int32)) (v := (.ref L1)) (i := 1) (by decide) hl1 (hb hby bx5) ?_
  refine bj2 X12 hx (hb hby by5) rfl (l' := #[.val (.ref o0), .val (.ref o1), .val (.int (ax0 true k)), .val (.ref L1)]) rfl ?_
  refine ae0 X12 hx (hb hby bz5) rfl rfl ?_
  refine bf7 X12 hx (pc' := 94) (hb hby ba6) ?_
  refine ae0 X12 hx (hb hby bb6) rfl rfl ?_
  refine ae0 X12 hx (hb hby bc6) rfl rfl ?_
  have G13 := (br6.keep Kq5 (ninS av0 (ninS am1 nin0)))
  have G14 := (E_L1.keep Kq5)
  obtain ⟨T15, h15, X15, e15, W15, st15⟩ := be1 X12 hx hZ hown (z_w hw 72 rfl) Via.refl e12 G13 G14 ((z_w hw 73 rfl)) (z_w hw 47 rfl) (ty := (.object z_s2)) (by decide) rfl rfl (g := (mkF m 96 #[.val (.ref o0), .val (.ref o1), .val (.int (ax0 true k)), .val (.ref L1)] [(.ref o1), (.ref L1)])) rfl rfl (hb hby bd6)
  have N15 := Fr.snoc X15 N5 bs6
  have K15 := Keep.wr K5 W15 (Or.inl (List.mem_of_getElem? (i := 1) rfl))
  have F15 := G13.same W15
  refine an1 (fun _ => st15 _) ?_
  show aa0 p e below P (T15.setTop (mkF m 99 #[.val (.ref o0), .val (.ref o1), .val (.int (ax0 true k)), .val (.ref L1)] []))
  refine ae0 X15 hx (hb hby be6) rfl rfl ?_
  refine ae1 X15 hx (hb hby bx3) rfl ?_
  have G16 := ((bl1.keep Kq5 (ninS av0 (ninS am1 nin0))).other W15 (Or.inr (slot_ne (Or.inl (z_w hw 75 rfl)) (Or.inl (z_w hw 73 rfl)) (by decide) (t := .int) (t' := (.object z_s2)) (by decide) (by decide))))
  have G17 := (G14.wr W15)
  obtain ⟨T18, h18, X18, e18, W18, st18⟩ := be1 X15 hx hZ hown (z_w hw 74 rfl) Via.refl e15 G16 G17 ((z_w hw 75 rfl)) (z_w hw 47 rfl) (ty := .int) (by decide) rfl rfl (g := (mkF m 101 #[.val (.ref o0), .val (.ref o1), .val (.int (ax0 true k)), .val (.ref L1)] [(.int (ax0 true k)), (.ref L1)])) rfl rfl (hb hby by3)
  have N18 := Fr.snoc X18 N15 bs6
  have K18 := Keep.wr K15 W18 (Or.inl (List.mem_of_getElem? (i := 1) rfl))
  have F18 := G16.same W18
  refine an1 (fun _ => st18 _) ?_
  show aa0 p e below P (T18.setTop (mkF m 104 #[.val (.ref o0), .val (.ref o1), .val (.int (ax0 true k)), .val (.ref L1)] []))
  refine ae0 X18 hx (hb hby bz3) rfl rfl ?_
  have G19 := (((bf1.keep Kq5 (ninS av0 (ninS am1 nin0))).other W15 (Or.inr (slot_ne (Or.inr (z_w hw 70 rfl)) (Or.inl (z_w hw 73 rfl)) (by decide) (t := (.object z_s0)) (t' := (.object z_s2)) (by decide) (by decide)))).other W18 (Or.inr (slot_ne (Or.inr (z_w hw 70 rfl)) (Or.inl (z_w hw 75 rfl)) (by decide) (t := (.object z_s0)) (t' := .int) (by decide) (by decide))))
  obtain ⟨T20, X20, e20, st20⟩ := bl0 X18 hx hZ hown (z_w hw 76 rfl) Via.refl e18 G19 (g := (mkF m 105 #[.val (.ref o0), .val (.ref o1), .val (.int (ax0 true k)), .val (.ref L1)] [(.ref L1)])) rfl rfl (hb hby b4)
  refine an1 (fun _ => st20 _) ?_
  show aa0 p e below P (T20.setTop (mkF m 108 #[.val (.ref o0), .val (.ref o1), .val (.int (ax0 true k)), .val (.ref L1)] [(.ref ak0)]))
  have G22 := (((az9.keep Kq5).wr W15).wr W18)
  have G23 := (((af7.keep Kq5 (ninS ad1 (ninS ap1 nin0))).other W15 (Or.inl au1.symm)).other W18 (Or.inl au1.symm))
  have G24 := (((ag7.keep Kq5 (ninS ad1 (ninS ap1 nin0))).other W15 (Or.inl au1.symm)).other W18 (Or.inl au1.symm))
  refine az1 X20 hx hZ (y := (⟨z_s0, "clear", "()V"⟩ : MethodName)) (z := (⟨z_s0, "clear", "()V"⟩ : MethodName)) hown (z_w hw 77 rfl) (z_w hw 78 rfl) (notFace_of_selects (args := #[]) (mvT hZ (z_w hw 80 rfl))) (z_w hw 80 rfl) (z_w hw 79 rfl) (z_w hw 55 rfl) (z_w hw 81 rfl) G22 (cs3 l Z a0 hw [] ak0  h18 n0 (Nat.le_trans Z0 K18.1) G22 G23 G24 av8) 0 e20 hml' (argsL := []) (rest := []) (lenOf as2 rfl) (hb hby ba4) (fun r21 T21 L21 X21 hQ21 => ?_)
  obtain ⟨rfl, Nq21, Kq21, f0_21, f1_21, f2_21⟩ := hQ21
  have N21 := Fr.app N18 Nq21
  have K21 := Keep.trans K18 Kq21 (allS (Or.inl (List.mem_of_getElem? (i := 2) rfl)) all0)
  show aa0 p e below P (T21.setTop (mkF m 111 #[.val (.ref o0), .val (.ref o1), .val (.int (ax0 true k)), .val (.ref L1)] []))
  refine ae0 X21 hx (hb hby bb4) rfl rfl ?_
  refine ae0 X21 hx (hb hby bc4) rfl rfl ?_
  have G25 := ((((ax5.keep Kq5 (ninS aq0 (ninS ac1 nin0))).other W15 (Or.inl aq2)).other W18 (Or.inl aq2)).keep Kq21 (ninS at1 nin0))
  refine au0 X21 hx hZ hown (host := "") (Or.inl (z_w hw 86 rfl)) Via.refl rfl G25 (hb hby bd4) (fun T26 X26 e26 => ?_)
  refine ae0 X26 hx (hb hby be4) rfl rfl ?_
  have G27 := (((G6.other W15 (Or.inl aq2)).other W18 (Or.inl aq2)).keep Kq21 (ninS at1 nin0))
  refine au0 X26 hx hZ hown (host := "") (Or.inl (z_w hw 45 rfl)) Via.refl e26 G27 (hb hby bf4) (fun T28 X28 e28 => ?_)
  refine as5 X28 hx hZ (y := (⟨"java/lang/Math", "min", "(II)I"⟩ : MethodName)) hown (z_w hw 88 rfl) (z_w hw 89 rfl) (z_w hw 90 rfl) (z_w hw 91 rfl) (cc0 l Z a0 hw [] (0 : Int32) (1 : Int32)  T21.heap n0 (Nat.le_trans Z0 K21.1) ) 1 e28 hml' (argsL := [(.int (0 : Int32)), (.int (1 : Int32))]) (rest := [(.ref o0)]) (lenOf bb1 rfl) (hb hby bg4) (fun r29 T29 L29 X29 hQ29 => ?_)
  obtain ⟨rfl, Nq29, eq29⟩ := hQ29
  have N29 := Fr.app N21 Nq29
  show aa0 p e below P (T29.setTop (mkF m 123 #[.val (.ref o0), .val (.ref o1), .val (.int (ax0 true k)), .val (.ref L1)] [(.int (al9 (0 : Int32) (1 : Int32))), (.ref o0)]))
  rw [show (al9 (0 : Int32) (1 : Int32)) = (0 : Int32) from by decide]
  show aa0 p e below P (T29.setTop (mkF m 123 #[.val (.ref o0), .val (.ref o1), .val (.int (ax0 true k)), .val (.ref L1)] [(.int (0 : Int32)), (.ref o0)]))
  have G30 := ((((E_o0.keep Kq5).wr W15).wr W18).keep Kq21)
  refine am4 X29 hx hZ hown (host := "") (Or.inl (z_w hw 86 rfl)) Via.refl eq29 G25 G30 (Or.inl (z_w hw 87 rfl)) (z_w hw 27 rfl) (ty := .int) (by decide) (hb hby bh4) (fun T31 h31 X31 e31 W31 => ?_)
  have N31 := Fr.snoc X31 N29 ah2
  have K31 := Keep.wr K21 W31 (Or.inl (List.mem_of_getElem? (i := 0) rfl))
  have F31 := G25.same W31
  refine ae0 X31 hx (hb hby bi4) rfl rfl ?_
  refine bi0 X31 hx (hb hby bj4) rfl ?_
  have G32 := (G27.other W31 (Or.inr (slot_ne (Or.inl (z_w hw 46 rfl)) (Or.inl (z_w hw 87 rfl)) (by decide) (t := .int) (t' := .int) (by decide) (by decide))))
  refine au0 X31 hx hZ hown (host := "") (Or.inl (z_w hw 45 rfl)) Via.refl e31 G32 (hb hby bk4) (fun T33 X33 e33 => ?_)
  refine az0 X33 hx (hb hby bl4) (z := (1 : Int32)) rfl ?_
  refine ad6 X33 hx (hb hby bm4) (z := (2 : Int32)) rfl ?_
  have G34 := (G30.wr W31)
  refine am4 X33 hx hZ hown (host := "") (Or.inl (z_w hw 45 rfl)) Via.refl e33 G32 G34 (Or.inl (z_w hw 46 rfl)) (z_w hw 27 rfl) (ty := .int) (by decide) (hb hby bn4) (fun T35 h35 X35 e35 W35 => ?_)
  have N35 := Fr.snoc X35 N31 ah2
  have K35 := Keep.wr K31 W35 (Or.inl (List.mem_of_getElem? (i := 0) rfl))
  have F35 := G32.same W35
  have G36 := (G34.wr W35)
  have G37 := (((((f0_5.wr W15).wr W18).keep Kq21).wr W31).wr W35)
  have G38 := ((((G17.wr W18).keep Kq21).wr W31).wr W35)
  have G39 := ((f0_21.wr W31).wr W35)
  have G40 := (((((G8.other W15 (Or.inl aq2)).other W18 (Or.inl aq2)).keep Kq21 (ninS at1 nin0)).other W31 (Or.inr (slot_ne (Or.inl (z_w hw 36 rfl)) (Or.inl (z_w hw 87 rfl)) (by decide) (t := (.array (.object z_s3))) (t' := .int) (by decide) (by decide)))).other W35 (Or.inr (slot_ne (Or.inl (z_w hw 36 rfl)) (Or.inl (z_w hw 46 rfl)) (by decide) (t := (.array (.object z_s3))) (t' := .int) (by decide) (by decide))))
  have G41 := (F31.other W35 (Or.inr (slot_ne (Or.inl (z_w hw 87 rfl)) (Or.inl (z_w hw 46 rfl)) (by decide) (t := .int) (t' := .int) (by decide) (by decide))))
  have G42 := (((G19.keep Kq21 (ninS au1 nin0)).other W31 (Or.inl aq2.symm)).other W35 (Or.inl aq2.symm))
  have G43 := ((((F15.other W18 (Or.inr (slot_ne (Or.inl (z_w hw 73 rfl)) (Or.inl (z_w hw 75 rfl)) (by decide) (t := (.object z_s2)) (t' := .int) (by decide) (by decide)))).keep Kq21 (ninS au1 nin0)).other W31 (Or.inl aq2.symm)).other W35 (Or.inl aq2.symm))
  have G44 := (((F18.keep Kq21 (ninS au1 nin0)).other W31 (Or.inl aq2.symm)).other W35 (Or.inl aq2.symm))
  have G45 := ((f1_21.other W31 (Or.inl at1.symm)).other W35 (Or.inl at1.symm))
  have G46 := ((f2_21.other W31 (Or.inl at1.symm)).other W35 (Or.inl at1.symm))
  have G47 := (((((f1_5.other W15 (Or.inl av0.symm)).other W18 (Or.inl av0.symm)).keep Kq21 (ninS ad1.symm nin0)).other W31 (Or.inl aq0.symm)).other W35 (Or.inl aq0.symm))
  have G48 := (((((f2_5.other W15 (Or.inl av0.symm)).other W18 (Or.inl av0.symm)).keep Kq21 (ninS ad1.symm nin0)).other W31 (Or.inl aq0.symm)).other W35 (Or.inl aq0.symm))
  have G49 := (((((f3_5.other W15 (Or.inl av0.symm)).other W18 (Or.inl av0.symm)).keep Kq21 (ninS ad1.symm nin0)).other W31 (Or.inl aq0.symm)).other W35 (Or.inl aq0.symm))
  have G50 := (((((f4_5.other W15 (Or.inl av0.symm)).other W18 (Or.inl av0.symm)).keep Kq21 (ninS ad1.symm nin0)).other W31 (Or.inl aq0.symm)).other W35 (Or.inl aq0.symm))
  have G51 := (((((f5_5.other W15 (Or.inl av0.symm)).other W18 (Or.inl av0.symm)).keep Kq21 (ninS ad1.symm nin0)).other W31 (Or.inl aq0.symm)).other W35 (Or.inl aq0.symm))
  have G52 := (((((f6_5.other W15 (Or.inl av0.symm)).other W18 (Or.inl av0.symm)).keep Kq21 (ninS ad1.symm nin0)).other W31 (Or.inl aq0.symm)).other W35 (Or.inl aq0.symm))
  have G53 := (((((f7_5.other W15 am1.symm).other W18 am1.symm).keep Kq21 (ninS ap1.symm nin0)).other W31 ac1.symm).other W35 ac1.symm)
  have hfin : ((fun (v : Option Value) (h : Heap) (L : List Loc) => v = none ∧ Fr n0 L ∧ Keep h0 h [o0, L1, ak0, af0, ad0] ∧ Exa Z h o0 z_s1 ∧ Exa Z h af0 z_s0 ∧ Exa Z h L1 z_s3 ∧ Exa Z h ak0 z_s0 ∧ Fld Z h o0 z_s1 "levels" z_s4 (.ref as0) ∧ Fld Z h o0 z_s1 "depth" "I" (.int (2 : Int32)) ∧ Fld Z h o0 z_s1 "written" "I" (.int (0 : Int32)) ∧ Fld Z h L1 z_s3 "children" z_s6 (.ref ak0) ∧ Fld Z h L1 z_s3 "name" z_s5 (.ref o1) ∧ Fld Z h L1 z_s3 "index" "I" (.int (ax0 true k)) ∧ Fld Z h ak0 z_s0 "size" "I" (.int (0 : Int32)) ∧ Fld Z h ak0 z_s0 "last" z_s5 .null ∧ Fld Z h af0 z_s0 "names" z_s8 (.ref ai0) ∧ Fld Z h af0 z_s0 "counts" "[I" (.ref ad0) ∧ Fld Z h af0 z_s0 "used" "[I" (.ref al0) ∧ Fld Z h af0 z_s0 "size" "I" (.int (ac5 true ax1)) ∧ Fld Z h af0 z_s0 "last" z_s5 (.ref o1) ∧ Fld Z h af0 z_s0 "lastSlot" "I" (.int (ac0 c0)) ∧ ah1 Z h ad0 (ai3 true Cn (ah0 (ac0 c0)) k))) none h35 _ := ⟨rfl, N35, K35, G36, G37, G38, G39, G40, F35, G41, G42, G43, G44, G45, G46, G47, G48, G49, G50, G51, G52, G53⟩
  refine bj0 X35 hx hlk hP hrt (hb hby bo4) (by decide) (by decide) ?_
  rw [e35]; exact hfin
theorem et3 (m : MethodId) (o0 : Addr) (o1 : Addr) : entryFrame m #[(.ref o0), (.ref o1)] 4 = mkF m 0 #[.val (.ref o0), .val (.ref o1), .unset, .unset] [] := by first | (simp [entryFrame, mkF, argsToLocals, Value.category]; done) | rfl
set_option maxRecDepth 65536 in
set_option maxHeartbeats 40000000 in
theorem cp5 (l : Launch) (Z : State) (a0 : Array Value) (hw : ∀ d ∈ tables_1, d.before a0 Z = true) (ws : List Jvm.Cond) (o0 : Addr) (o1 : Addr) (L0 : Addr) (L1 : Addr) (Lv : List Value) (c0 : Int32) (N : List Value) (Cn : List Int32) (U : List Int32) (k : Int32) (fd : Bool) (j : Int32) (q0 : Addr) (d0 : Int32) (as0 : Addr) (af0 : Addr) (ak0 : Addr) (bq6 : Addr) (ay9 : Int32) (ai0 : Addr) (ad0 : Addr) (al0 : Addr) (ax1 : Int32) (af2 : Int32) (am0 : Addr) (af1 : Addr) (ab0 : Int32) (h0 : Heap) (n0 : Nat) (Z0 : n0 ≤ h0.size) (E_o0 : Exa Z h0 o0 z_s1) (E_L0 : Exa Z h0 L0 z_s3) (al5 : Exa Z h0 af0 z_s0) (E_L1 : Exa Z h0 L1 z_s3) (az9 : Exa Z h0 ak0 z_s0) (E_o1 : Exa Z h0 o1 z_s2) (E_q0 : Exa Z h0 q0 z_s2) (az3 : Fld Z h0 o0 z_s1 "levels" z_s4 (.ref as0)) (au2 : Fld Z h0 o0 z_s1 "depth" "I" (.int (1 : Int32))) (ax5 : Fld Z h0 o0 z_s1 "written" "I" (.int (0 : Int32))) (aj9 : Fld Z h0 L0 z_s3 "children" z_s6 (.ref af0)) (bf1 : Fld Z h0 L1 z_s3 "children" z_s6 (.ref ak0)) (br6 : Fld Z h0 L1 z_s3 "name" z_s5 (.ref bq6)) (bl1 : Fld Z h0 L1 z_s3 "index" "I" (.int ay9)) (af7 : Fld Z h0 ak0 z_s0 "size" "I" (.int (0 : Int32))) (ag7 : Fld Z h0 ak0 z_s0 "last" z_s5 .null) (as6 : Fld Z h0 af0 z_s0 "names" z_s8 (.ref ai0)) (ag5 : Fld Z h0 af0 z_s0 "counts" "[I" (.ref ad0)) (ad7 : Fld Z h0 af0 z_s0 "used" "[I" (.ref al0)) (ae7 : Fld Z h0 af0 z_s0 "size" "I" (.int ax1)) (ap5 : Fld Z h0 af0 z_s0 "last" z_s5 (.ref q0)) (aw4 : Fld Z h0 af0 z_s0 "lastSlot" "I" (.int af2)) (ag3 : Fld Z h0 o1 z_s2 "value" "[B" (.ref am0)) (ah3 : Fld Z h0 o1 z_s2 "coder" "B" (.int (0 : Int32))) (an3 : Fld Z h0 o1 z_s2 "hash" "I" (.int (0 : Int32))) (aa2 : Fld Z h0 o1 z_s2 "hashIsZero" "Z" (.int (0 : Int32))) (aj5 : Fld Z h0 q0 z_s2 "value" "[B" (.ref af1)) (ak5 : Fld Z h0 q0 z_s2 "coder" "B" (.int (0 : Int32))) (ar0 : Sta Z h0 z_s2 "COMPACT_STRINGS" "Z" (.int ab0)) (ar3 : (ac2 z_s3) Z h0 as0 Lv) (ah6 : (ac2 z_s2) Z h0 ai0 N) (ax4 : ah1 Z h0 ad0 Cn) (ae9 : ah1 Z h0 al0 U) (aj2 : ax2 Z h0 am0 [c0]) (aq4 : ax2 Z h0 af1 [d0]) (ah2 : n0 ≤ o0) (bs6 : n0 ≤ L1) (av8 : n0 ≤ ak0) (au8 : n0 ≤ af0) (ar7 : n0 ≤ ai0) (an4 : n0 ≤ ad0) (ab8 : n0 ≤ al0) (ae6 : n0 ≤ o1) (aq2 : o0 ≠ L1) (at1 : o0 ≠ ak0) (aq0 : o0 ≠ af0) (ab2 : o0 ≠ ai0) (ac1 : o0 ≠ ad0) (ai2 : o0 ≠ al0) (ap0 : o0 ≠ o1) (au1 : L1 ≠ ak0) (av0 : L1 ≠ af0) (aa3 : L1 ≠ ai0) (am1 : L1 ≠ ad0) (at3 : L1 ≠ al0) (aq5 : L1 ≠ o1) (ad1 : ak0 ≠ af0) (ac3 : ak0 ≠ ai0) (ap1 : ak0 ≠ ad0) (ab4 : ak0 ≠ al0) (ae4 : ak0 ≠ o1) (av3 : af0 ≠ ai0) (as3 : af0 ≠ ad0) (ad5 : af0 ≠ al0) (ap7 : af0 ≠ o1) (af4 : ai0 ≠ ad0) (al4 : ai0 ≠ al0) (az6 : ai0 ≠ o1) (ai4 : ad0 ≠ al0) (ab5 : ad0 ≠ o1) (ah7 : al0 ≠ o1) (cg4 : o0 ≠ L0) (aw9 : o0 ≠ q0) (ak4 : o0 ≠ as0) (az2 : o0 ≠ am0) (av4 : o0 ≠ af1) (ch7 : L1 ≠ L0) (eu3 : L1 ≠ q0) (bo7 : L1 ≠ as0) (ci7 : L1 ≠ am0) (cj7 : L1 ≠ af1) (bh6 : ak0 ≠ L0) (cw4 : ak0 ≠ q0) (bo0 : ak0 ≠ as0) (ce1 : ak0 ≠ am0) (cg1 : ak0 ≠ af1) (bg6 : af0 ≠ L0) (bi6 : af0 ≠ q0) (at6 : af0 ≠ as0) (ab6 : af0 ≠ am0) (bx0 : af0 ≠ af1) (bt4 : ai0 ≠ L0) (by0 : ai0 ≠ q0) (ad8 : ai0 ≠ as0) (at4 : ai0 ≠ am0) (aj8 : ai0 ≠ af1) (ai8 : ad0 ≠ L0) (bp0 : ad0 ≠ q0) (aa4 : ad0 ≠ as0) (ar4 : ad0 ≠ am0) (ae8 : ad0 ≠ af1) (bb5 : al0 ≠ L0) (bg1 : al0 ≠ q0) (ak8 : al0 ≠ as0) (az4 : al0 ≠ am0) (aw8 : al0 ≠ af1) (dc1 : o1 ≠ L0) (ad4 : o1 ≠ q0) (bp7 : o1 ≠ as0) (ae2 : o1 ≠ am0) (ad3 : o1 ≠ af1) (hnz : ¬ (ab0 = (0 : Int32))) (hN : N.length = 16) (hCn : Cn.length = 16) (hU : U.length = 16) (hz : bg0 ax1) (hpr : bg8 N Cn c0 q0 d0 fd j k) (hl0 : Lv[0]? = some (.ref L0)) (hl1 : Lv[1]? = some (.ref L1)) (hll : Lv.length = 16) :
    ab3 l Z (⟨z_s1, "enter", z_s7⟩ : MethodName) prog_126_method_2_code 4 none ws ({ frames := 3, cells := 0, slots := 0, locals := 44 } : Room) #[(.ref o0), (.ref o1)] h0 (fun (v : Option Value) (h : Heap) (L : List Loc) => v = none ∧ Fr n0 L ∧ Keep h0 h [o0, L1, ak0, af0, ai0, ad0, al0, o1] ∧ Exa Z h o0 z_s1 ∧ Exa Z h af0 z_s0 ∧ Exa Z h L1 z_s3 ∧ Exa Z h ak0 z_s0 ∧ Exa Z h o1 z_s2 ∧ Fld Z h o0 z_s1 "levels" z_s4 (.ref as0) ∧ Fld Z h o0 z_s1 "depth" "I" (.int (2 : Int32)) ∧ Fld Z h o0 z_s1 "written" "I" (.int (0 : Int32)) ∧ Fld Z h L1 z_s3 "children" z_s6 (.ref ak0) ∧ Fld Z h L1 z_s3 "name" z_s5 (.ref o1) ∧ Fld Z h L1 z_s3 "index" "I" (.int (ax0 fd k)) ∧ Fld Z h ak0 z_s0 "size" "I" (.int (0 : Int32)) ∧ Fld Z h ak0 z_s0 "last" z_s5 .null ∧ Fld Z h af0 z_s0 "names" z_s8 (.ref ai0) ∧ Fld Z h af0 z_s0 "counts" "[I" (.ref ad0) ∧ Fld Z h af0 z_s0 "used" "[I" (.ref al0) ∧ Fld Z h af0 z_s0 "size" "I" (.int (ac5 fd ax1)) ∧ Fld Z h af0 z_s0 "last" z_s5 (.ref o1) ∧ Fld Z h af0 z_s0 "lastSlot" "I" (.int j) ∧ Fld Z h o1 z_s2 "value" "[B" (.ref am0) ∧ Fld Z h o1 z_s2 "coder" "B" (.int (0 : Int32)) ∧ Fld Z h o1 z_s2 "hash" "I" (.int (ak1 c0)) ∧ Fld Z h o1 z_s2 "hashIsZero" "Z" (.int (aj6 (ak1 c0))) ∧ (ac2 z_s2) Z h ai0 (ap4 fd N (ah0 j) o1) ∧ ah1 Z h ad0 (ai3 fd Cn (ah0 j) k) ∧ ah1 Z h al0 (ap6 fd U (ah0 ax1) j)) := by
  refine al3 (plainFor_of_name ar1) ?_
  intro p e s m below meth c s₁ P hx hby hml hrt hlk hown hnm hZ X0 e0 hP
  have N0 := Fr.nil n0
  have K0 := Keep.refl h0 [o0, L1, ak0, af0, ai0, ad0, al0, o1]
  have hml' : c.maxLocals = 4 := hml
  refine ac4 (et3 m o0 o1) ?_
  show aa0 p e below P (s₁.setTop (mkF m 0 #[.val (.ref o0), .val (.ref o1), .unset, .unset] []))
  refine ae0 X0 hx (hb hby bg7) rfl rfl ?_
  refine au0 X0 hx hZ hown (host := "") (Or.inl (z_w hw 45 rfl)) Via.refl e0 au2 (hb hby bh7) (fun T1 X1 e1 => ?_)
  refine al7 X1 hx (pc' := 11) (hb hby bi7) ((if0 _ _).trans (feq (by decide : ¬ ((1 : Int32) = (0 : Int32)))).2) ?_
  refine ae0 X1 hx (hb hby br7) rfl rfl ?_
  refine au0 X1 hx hZ hown (host := "") (Or.inl (z_w hw 35 rfl)) Via.refl e1 az3 (hb hby bs7) (fun T2 X2 e2 => ?_)
  refine ae0 X2 hx (hb hby bt7) rfl rfl ?_
  refine au0 X2 hx hZ hown (host := "") (Or.inl (z_w hw 45 rfl)) Via.refl e2 au2 (hb hby bu7) (fun T3 X3 e3 => ?_)
  refine az0 X3 hx (hb hby bv7) (z := (1 : Int32)) rfl ?_
  refine bt1 X3 hx (hb hby bw7) (z := (0 : Int32)) rfl ?_
  refine ay2 X3 hx hZ e3 ar3 (j := (0 : Int32)) (v := (.ref L0)) (i := 0) (by decide) hl0 (hb hby bx7) ?_
  obtain ⟨T4, X4, e4, st4⟩ := bl0 X3 hx hZ hown (z_w hw 76 rfl) Via.refl e3 aj9 (g := (mkF m 22 #[.val (.ref o0), .val (.ref o1), .unset, .unset] [(.ref L0)])) rfl rfl (hb hby by7)
  refine an1 (fun _ => st4 _) ?_
  show aa0 p e below P (T4.setTop (mkF m 25 #[.val (.ref o0), .val (.ref o1), .unset, .unset] [(.ref af0)]))
  refine ae0 X4 hx (hb hby bz7) rfl rfl ?_
  refine az1 X4 hx hZ (y := (⟨z_s0, "count", z_s9⟩ : MethodName)) (z := (⟨z_s0, "count", z_s9⟩ : MethodName)) hown (z_w hw 92 rfl) (z_w hw 93 rfl) (notFace_of_selects (args := #[]) (mvT hZ (z_w hw 95 rfl))) (z_w hw 95 rfl) (z_w hw 94 rfl) (z_w hw 55 rfl) (z_w hw 96 rfl) al5 (ek3 l Z a0 hw [] af0 o1 c0 N Cn U k fd j q0 d0 ai0 ad0 al0 ax1 af2 am0 af1 ab0 h0 n0 (Nat.le_trans Z0 K0.1) al5 E_o1 E_q0 as6 ag5 ad7 ae7 ap5 aw4 ag3 ah3 an3 aa2 aj5 ak5 ar0 ah6 ax4 ae9 aj2 aq4 au8 ar7 an4 ab8 ae6 av3 as3 ad5 ap7 af4 al4 az6 ai4 ab5 ah7 ab6 bi6 bx0 at4 by0 aj8 ar4 bp0 ae8 az4 bg1 aw8 ae2 ad4 ad3 hnz hN hCn hU hz hpr) 0 e4 hml' (argsL := [(.ref o1)]) (rest := []) (lenOf af6 rfl) (hb hby b8) (fun r5 T5 L5 X5 hQ5 => ?_)
  obtain ⟨rfl, Nq5, Kq5, f0_5, f1_5, f2_5, f3_5, f4_5, f5_5, f6_5, f7_5, f8_5, f9_5, f10_5, f11_5, f12_5, f13_5, f14_5⟩ := hQ5
  have N5 := Fr.app N0 Nq5
  have K5 := Keep.trans K0 Kq5 (allS (Or.inl (List.mem_of_getElem? (i := 3) rfl)) (allS (Or.inl (List.mem_of_getElem? (i := 4) rfl)) (allS (Or.inl (List.mem_of_getElem? (i := 5) rfl)) (allS (Or.inl (List.mem_of_getElem? (i := 6) rfl)) (allS (Or.inl (List.mem_of_getElem? (i := 7) rfl)) all0)))))
  show aa0 p e below P (T5.setTop (mkF m 29 #[.val (.ref o0), .val (.ref o1), .unset, .unset] [(.int (ax0 fd k))]))
  refine ag4 X5 hx (hb hby bm5) (l' := #[.val (.ref o0), .val (.ref o1), .val (.int (ax0 fd k)), .unset]) rfl ?_
  refine ae0 X5 hx (hb hby bn5) rfl rfl ?_
  have G6 := (au2.keep Kq5 (ninS aq0 (ninS ab2 (ninS ac1 (ninS ai2 (ninS ap0 nin0))))))
  refine au0 X5 hx hZ hown (host := "") (Or.inl (z_w hw 45 rfl)) Via.refl rfl G6 (hb hby bo5) (fun T7 X7 e7 => ?_)
  refine ae0 X7 hx (hb hby bp5) rfl rfl ?_
  have G8 := (az3.keep Kq5 (ninS aq0 (ninS ab2 (ninS ac1 (ninS ai2 (ninS ap0 nin0))))))
  refine au0 X7 hx hZ hown (host := "") (Or.inl (z_w hw 35 rfl)) Via.refl e7 G8 (hb hby bq5) (fun T9 X9 e9 => ?_)
  have G10 := (ar3.keep Kq5 (ninS at6.symm (ninS ad8.symm (ninS aa4.symm (ninS ak8.symm (ninS bp7.symm nin0))))))
  refine ao9 X9 hx hZ e9 G10 (z := (16 : Int32)) (show Int32.ofNat Lv.length = (16 : Int32) from by rw [hll]; rfl) (hb hby br5) ?_
  refine au3 X9 hx (pc' := 62) (hb hby bs5) (feq (by decide : ¬ ((1 : Int32) = (16 : Int32)))).2 ?_
  refine ae0 X9 hx (hb hby bt5) rfl rfl ?_
  refine au0 X9 hx hZ hown (host := "") (Or.inl (z_w hw 35 rfl)) Via.refl e9 G8 (hb hby bu5) (fun T11 X11 e11 => ?_)
  refine ae0 X11 hx (hb hby bv5) rfl rfl ?_
  refine au0 X11 hx hZ hown (host := "") (Or.inl (z_w hw 45 rfl)) Via.refl e11 G6 (hb hby bw5) (fun T12 X12 e12 => ?_)
  refine ay2 X12 hx hZ e12 G10 (j := (1 : Int32)) (v := (.ref L1)) (i := 1) (by decide) hl1 (hb hby bx5) ?_
  refine bj2 X12 hx (hb hby by5) rfl (l' := #[.val (.ref o0), .val (.ref o1), .val (.int (ax0 fd k)), .val (.ref L1)]) rfl ?_
  refine ae0 X12 hx (hb hby bz5) rfl rfl ?_
  refine bf7 X12 hx (pc' := 94) (hb hby ba6) ?_
  refine ae0 X12 hx (hb hby bb6) rfl rfl ?_
  refine ae0 X12 hx (hb hby bc6) rfl rfl ?_
  have G13 := (br6.keep Kq5 (ninS av0 (ninS aa3 (ninS am1 (ninS at3 (ninS aq5 nin0))))))
  have G14 := (E_L1.keep Kq5)
  obtain ⟨T15, h15, X15, e15, W15, st15⟩ := be1 X12 hx hZ hown (z_w hw 72 rfl) Via.refl e12 G13 G14 ((z_w hw 73 rfl)) (z_w hw 47 rfl) (ty := (.object z_s2)) (by decide) rfl rfl (g := (mkF m 96 #[.val (.ref o0), .val (.ref o1), .val (.int (ax0 fd k)), .val (.ref L1)] [(.ref o1), (.ref L1)])) rfl rfl (hb hby bd6)
  have N15 := Fr.snoc X15 N5 bs6
  have K15 := Keep.wr K5 W15 (Or.inl (List.mem_of_getElem? (i := 1) rfl))
  have F15 := G13.same W15
  refine an1 (fun _ => st15 _) ?_
  show aa0 p e below P (T15.setTop (mkF m 99 #[.val (.ref o0), .val (.ref o1), .val (.int (ax0 fd k)), .val (.ref L1)] []))
  refine ae0 X15 hx (hb hby be6) rfl rfl ?_
  refine ae1 X15 hx (hb hby bx3) rfl ?_
  have G16 := ((bl1.keep Kq5 (ninS av0 (ninS aa3 (ninS am1 (ninS at3 (ninS aq5 nin0)))))).other W15 (Or.inr (slot_ne (Or.inl (z_w hw 75 rfl)) (Or.inl (z_w hw 73 rfl)) (by decide) (t := .int) (t' := (.object z_s2)) (by decide) (by decide))))
  have G17 := (G14.wr W15)
  obtain ⟨T18, h18, X18, e18, W18, st18⟩ := be1 X15 hx hZ hown (z_w hw 74 rfl) Via.refl e15 G16 G17 ((z_w hw 75 rfl)) (z_w hw 47 rfl) (ty := .int) (by decide) rfl rfl (g := (mkF m 101 #[.val (.ref o0), .val (.ref o1), .val (.int (ax0 fd k)), .val (.ref L1)] [(.int (ax0 fd k)), (.ref L1)])) rfl rfl (hb hby by3)
  have N18 := Fr.snoc X18 N15 bs6
  have K18 := Keep.wr K15 W18 (Or.inl (List.mem_of_getElem? (i := 1) rfl))
  have F18 := G16.same W18
  refine an1 (fun _ => st18 _) ?_
  show aa0 p e below P (T18.setTop (mkF m 104 #[.val (.ref o0), .val (.ref o1), .val (.int (ax0 fd k)), .val (.ref L1)] []))
  refine ae0 X18 hx (hb hby bz3) rfl rfl ?_
  have G19 := (((bf1.keep Kq5 (ninS av0 (ninS aa3 (ninS am1 (ninS at3 (ninS aq5 nin0)))))).other W15 (Or.inr (slot_ne (Or.inr (z_w hw 70 rfl)) (Or.inl (z_w hw 73 rfl)) (by decide) (t := (.object z_s0)) (t' := (.object z_s2)) (by decide) (by decide)))).other W18 (Or.inr (slot_ne (Or.inr (z_w hw 70 rfl)) (Or.inl (z_w hw 75 rfl)) (by decide) (t := (.object z_s0)) (t' := .int) (by decide) (by decide))))
  obtain ⟨T20, X20, e20, st20⟩ := bl0 X18 hx hZ hown (z_w hw 76 rfl) Via.refl e18 G19 (g := (mkF m 105 #[.val (.ref o0), .val (.ref o1), .val (.int (ax0 fd k)), .val (.ref L1)] [(.ref L1)])) rfl rfl (hb hby b4)
  refine an1 (fun _ => st20 _) ?_
  show aa0 p e below P (T20.setTop (mkF m 108 #[.val (.ref o0), .val (.ref o1), .val (.int (ax0 fd k)), .val (.ref L1)] [(.ref ak0)]))
  have G22 := (((az9.keep Kq5).wr W15).wr W18)
  have G23 := (((af7.keep Kq5 (ninS ad1 (ninS ac3 (ninS ap1 (ninS ab4 (ninS ae4 nin0)))))).other W15 (Or.inl au1.symm)).other W18 (Or.inl au1.symm))
  have G24 := (((ag7.keep Kq5 (ninS ad1 (ninS ac3 (ninS ap1 (ninS ab4 (ninS ae4 nin0)))))).other W15 (Or.inl au1.symm)).other W18 (Or.inl au1.symm))
  refine az1 X20 hx hZ (y := (⟨z_s0, "clear", "()V"⟩ : MethodName)) (z := (⟨z_s0, "clear", "()V"⟩ : MethodName)) hown (z_w hw 77 rfl) (z_w hw 78 rfl) (notFace_of_selects (args := #[]) (mvT hZ (z_w hw 80 rfl))) (z_w hw 80 rfl) (z_w hw 79 rfl) (z_w hw 55 rfl) (z_w hw 81 rfl) G22 (cs3 l Z a0 hw [] ak0  h18 n0 (Nat.le_trans Z0 K18.1) G22 G23 G24 av8) 0 e20 hml' (argsL := []) (rest := []) (lenOf as2 rfl) (hb hby ba4) (fun r21 T21 L21 X21 hQ21 => ?_)
  obtain ⟨rfl, Nq21, Kq21, f0_21, f1_21, f2_21⟩ := hQ21
  have N21 := Fr.app N18 Nq21
  have K21 := Keep.trans K18 Kq21 (allS (Or.inl (List.mem_of_getElem? (i := 2) rfl)) all0)
  show aa0 p e below P (T21.setTop (mkF m 111 #[.val (.ref o0), .val (.ref o1), .val (.int (ax0 fd k)), .val (.ref L1)] []))
  refine ae0 X21 hx (hb hby bb4) rfl rfl ?_
  refine ae0 X21 hx (hb hby bc4) rfl rfl ?_
  have G25 := ((((ax5.keep Kq5 (ninS aq0 (ninS ab2 (ninS ac1 (ninS ai2 (ninS ap0 nin0)))))).other W15 (Or.inl aq2)).other W18 (Or.inl aq2)).keep Kq21 (ninS at1 nin0))
  refine au0 X21 hx hZ hown (host := "") (Or.inl (z_w hw 86 rfl)) Via.refl rfl G25 (hb hby bd4) (fun T26 X26 e26 => ?_)
  refine ae0 X26 hx (hb hby be4) rfl rfl ?_
  have G27 := (((G6.other W15 (Or.inl aq2)).other W18 (Or.inl aq2)).keep Kq21 (ninS at1 nin0))
  refine au0 X26 hx hZ hown (host := "") (Or.inl (z_w hw 45 rfl)) Via.refl e26 G27 (hb hby bf4) (fun T28 X28 e28 => ?_)
  refine as5 X28 hx hZ (y := (⟨"java/lang/Math", "min", "(II)I"⟩ : MethodName)) hown (z_w hw 88 rfl) (z_w hw 89 rfl) (z_w hw 90 rfl) (z_w hw 91 rfl) (cc0 l Z a0 hw [] (0 : Int32) (1 : Int32)  T21.heap n0 (Nat.le_trans Z0 K21.1) ) 1 e28 hml' (argsL := [(.int (0 : Int32)), (.int (1 : Int32))]) (rest := [(.ref o0)]) (lenOf bb1 rfl) (hb hby bg4) (fun r29 T29 L29 X29 hQ29 => ?_)
  obtain ⟨rfl, Nq29, eq29⟩ := hQ29
  have N29 := Fr.app N21 Nq29
  show aa0 p e below P (T29.setTop (mkF m 123 #[.val (.ref o0), .val (.ref o1), .val (.int (ax0 fd k)), .val (.ref L1)] [(.int (al9 (0 : Int32) (1 : Int32))), (.ref o0)]))
  rw [show (al9 (0 : Int32) (1 : Int32)) = (0 : Int32) from by decide]
  show aa0 p e below P (T29.setTop (mkF m 123 #[.val (.ref o0), .val (.ref o1), .val (.int (ax0 fd k)), .val (.ref L1)] [(.int (0 : Int32)), (.ref o0)]))
  have G30 := ((((E_o0.keep Kq5).wr W15).wr W18).keep Kq21)
  refine am4 X29 hx hZ hown (host := "") (Or.inl (z_w hw 86 rfl)) Via.refl eq29 G25 G30 (Or.inl (z_w hw 87 rfl)) (z_w hw 27 rfl) (ty := .int) (by decide) (hb hby bh4) (fun T31 h31 X31 e31 W31 => ?_)
  have N31 := Fr.snoc X31 N29 ah2
  have K31 := Keep.wr K21 W31 (Or.inl (List.mem_of_getElem? (i := 0) rfl))
  have F31 := G25.same W31
  refine ae0 X31 hx (hb hby bi4) rfl rfl ?_
  refine bi0 X31 hx (hb hby bj4) rfl ?_
  have G32 := (G27.other W31 (Or.inr (slot_ne (Or.inl (z_w hw 46 rfl)) (Or.inl (z_w hw 87 rfl)) (by decide) (t := .int) (t' := .int) (by decide) (by decide))))
  refine au0 X31 hx hZ hown (host := "") (Or.inl (z_w hw 45 rfl)) Via.refl e31 G32 (hb hby bk4) (fun T33 X33 e33 => ?_)
  refine az0 X33 hx (hb hby bl4) (z := (1 : Int32)) rfl ?_
  refine ad6 X33 hx (hb hby bm4) (z := (2 : Int32)) rfl ?_
  have G34 := (G30.wr W31)
  refine am4 X33 hx hZ hown (host := "") (Or.inl (z_w hw 45 rfl)) Via.refl e33 G32 G34 (Or.inl (z_w hw 46 rfl)) (z_w hw 27 rfl) (ty := .int) (by decide) (hb hby bn4) (fun T35 h35 X35 e35 W35 => ?_)
  have N35 := Fr.snoc X35 N31 ah2
  have K35 := Keep.wr K31 W35 (Or.inl (List.mem_of_getElem? (i := 0) rfl))
  have F35 := G32.same W35
  have G36 := (G34.wr W35)
  have G37 := (((((f0_5.wr W15).wr W18).keep Kq21).wr W31).wr W35)
  have G38 := ((((G17.wr W18).keep Kq21).wr W31).wr W35)
  have G39 := ((f0_21.wr W31).wr W35)
  have G40 := (((((f10_5.wr W15).wr W18).keep Kq21).wr W31).wr W35)
  have G41 := (((((G8.other W15 (Or.inl aq2)).other W18 (Or.inl aq2)).keep Kq21 (ninS at1 nin0)).other W31 (Or.inr (slot_ne (Or.inl (z_w hw 36 rfl)) (Or.inl (z_w hw 87 rfl)) (by decide) (t := (.array (.object z_s3))) (t' := .int) (by decide) (by decide)))).other W35 (Or.inr (slot_ne (Or.inl (z_w hw 36 rfl)) (Or.inl (z_w hw 46 rfl)) (by decide) (t := (.array (.object z_s3))) (t' := .int) (by decide) (by decide))))
  have G42 := (F31.other W35 (Or.inr (slot_ne (Or.inl (z_w hw 87 rfl)) (Or.inl (z_w hw 46 rfl)) (by decide) (t := .int) (t' := .int) (by decide) (by decide))))
  have G43 := (((G19.keep Kq21 (ninS au1 nin0)).other W31 (Or.inl aq2.symm)).other W35 (Or.inl aq2.symm))
  have G44 := ((((F15.other W18 (Or.inr (slot_ne (Or.inl (z_w hw 73 rfl)) (Or.inl (z_w hw 75 rfl)) (by decide) (t := (.object z_s2)) (t' := .int) (by decide) (by decide)))).keep Kq21 (ninS au1 nin0)).other W31 (Or.inl aq2.symm)).other W35 (Or.inl aq2.symm))
  have G45 := (((F18.keep Kq21 (ninS au1 nin0)).other W31 (Or.inl aq2.symm)).other W35 (Or.inl aq2.symm))
  have G46 := ((f1_21.other W31 (Or.inl at1.symm)).other W35 (Or.inl at1.symm))
  have G47 := ((f2_21.other W31 (Or.inl at1.symm)).other W35 (Or.inl at1.symm))
  have G48 := (((((f1_5.other W15 (Or.inl av0.symm)).other W18 (Or.inl av0.symm)).keep Kq21 (ninS ad1.symm nin0)).other W31 (Or.inl aq0.symm)).other W35 (Or.inl aq0.symm))
  have G49 := (((((f2_5.other W15 (Or.inl av0.symm)).other W18 (Or.inl av0.symm)).keep Kq21 (ninS ad1.symm nin0)).other W31 (Or.inl aq0.symm)).other W35 (Or.inl aq0.symm))
  have G50 := (((((f3_5.other W15 (Or.inl av0.symm)).other W18 (Or.inl av0.symm)).keep Kq21 (ninS ad1.symm nin0)).other W31 (Or.inl aq0.symm)).other W35 (Or.inl aq0.symm))
  have G51 := (((((f4_5.other W15 (Or.inl av0.symm)).other W18 (Or.inl av0.symm)).keep Kq21 (ninS ad1.symm nin0)).other W31 (Or.inl aq0.symm)).other W35 (Or.inl aq0.symm))
  have G52 := (((((f5_5.other W15 (Or.inl av0.symm)).other W18 (Or.inl av0.symm)).keep Kq21 (ninS ad1.symm nin0)).other W31 (Or.inl aq0.symm)).other W35 (Or.inl aq0.symm))
  have G53 := (((((f6_5.other W15 (Or.inl av0.symm)).other W18 (Or.inl av0.symm)).keep Kq21 (ninS ad1.symm nin0)).other W31 (Or.inl aq0.symm)).other W35 (Or.inl aq0.symm))
  have G54 := (((((f11_5.other W15 (Or.inl aq5.symm)).other W18 (Or.inl aq5.symm)).keep Kq21 (ninS ae4.symm nin0)).other W31 (Or.inl ap0.symm)).other W35 (Or.inl ap0.symm))
  have G55 := (((((f12_5.other W15 (Or.inl aq5.symm)).other W18 (Or.inl aq5.symm)).keep Kq21 (ninS ae4.symm nin0)).other W31 (Or.inl ap0.symm)).other W35 (Or.inl ap0.symm))
  have G56 := (((((f13_5.other W15 (Or.inl aq5.symm)).other W18 (Or.inl aq5.symm)).keep Kq21 (ninS ae4.symm nin0)).other W31 (Or.inl ap0.symm)).other W35 (Or.inl ap0.symm))
  have G57 := (((((f14_5.other W15 (Or.inl aq5.symm)).other W18 (Or.inl aq5.symm)).keep Kq21 (ninS ae4.symm nin0)).other W31 (Or.inl ap0.symm)).other W35 (Or.inl ap0.symm))
  have G58 := (((((f7_5.other W15 aa3.symm).other W18 aa3.symm).keep Kq21 (ninS ac3.symm nin0)).other W31 ab2.symm).other W35 ab2.symm)
  have G59 := (((((f8_5.other W15 am1.symm).other W18 am1.symm).keep Kq21 (ninS ap1.symm nin0)).other W31 ac1.symm).other W35 ac1.symm)
  have G60 := (((((f9_5.other W15 at3.symm).other W18 at3.symm).keep Kq21 (ninS ab4.symm nin0)).other W31 ai2.symm).other W35 ai2.symm)
  have hfin : ((fun (v : Option Value) (h : Heap) (L : List Loc) => v = none ∧ Fr n0 L ∧ Keep h0 h [o0, L1, ak0, af0, ai0, ad0, al0, o1] ∧ Exa Z h o0 z_s1 ∧ Exa Z h af0 z_s0 ∧ Exa Z h L1 z_s3 ∧ Exa Z h ak0 z_s0 ∧ Exa Z h o1 z_s2 ∧ Fld Z h o0 z_s1 "levels" z_s4 (.ref as0) ∧ Fld Z h o0 z_s1 "depth" "I" (.int (2 : Int32)) ∧ Fld Z h o0 z_s1 "written" "I" (.int (0 : Int32)) ∧ Fld Z h L1 z_s3 "children" z_s6 (.ref ak0) ∧ Fld Z h L1 z_s3 "name" z_s5 (.ref o1) ∧ Fld Z h L1 z_s3 "index" "I" (.int (ax0 fd k)) ∧ Fld Z h ak0 z_s0 "size" "I" (.int (0 : Int32)) ∧ Fld Z h ak0 z_s0 "last" z_s5 .null ∧ Fld Z h af0 z_s0 "names" z_s8 (.ref ai0) ∧ Fld Z h af0 z_s0 "counts" "[I" (.ref ad0) ∧ Fld Z h af0 z_s0 "used" "[I" (.ref al0) ∧ Fld Z h af0 z_s0 "size" "I" (.int (ac5 fd ax1)) ∧ Fld Z h af0 z_s0 "last" z_s5 (.ref o1) ∧ Fld Z h af0 z_s0 "lastSlot" "I" (.int j) ∧ Fld Z h o1 z_s2 "value" "[B" (.ref am0) ∧ Fld Z h o1 z_s2 "coder" "B" (.int (0 : Int32)) ∧ Fld Z h o1 z_s2 "hash" "I" (.int (ak1 c0)) ∧ Fld Z h o1 z_s2 "hashIsZero" "Z" (.int (aj6 (ak1 c0))) ∧ (ac2 z_s2) Z h ai0 (ap4 fd N (ah0 j) o1) ∧ ah1 Z h ad0 (ai3 fd Cn (ah0 j) k) ∧ ah1 Z h al0 (ap6 fd U (ah0 ax1) j))) none h35 _ := ⟨rfl, N35, K35, G36, G37, G38, G39, G40, G41, F35, G42, G43, G44, G45, G46, G47, G48, G49, G50, G51, G52, G53, G54, G55, G56, G57, G58, G59, G60⟩
  refine bj0 X35 hx hlk hP hrt (hb hby bo4) (by decide) (by decide) ?_
  rw [e35]; exact hfin
theorem ev3 (m : MethodId) (o0 : Addr) (o1 : Addr) : entryFrame m #[(.ref o0), (.ref o1)] 4 = mkF m 0 #[.val (.ref o0), .val (.ref o1), .unset, .unset] [] := by first | (simp [entryFrame, mkF, argsToLocals, Value.category]; done) | rfl
set_option maxRecDepth 65536 in
set_option maxHeartbeats 40000000 in
theorem ev4 (l : Launch) (Z : State) (a0 : Array Value) (hw : ∀ d ∈ tables_1, d.before a0 Z = true) (ws : List Jvm.Cond) (o0 : Addr) (o1 : Addr) (L0 : Addr) (L1 : Addr) (Lv : List Value) (c0 : Int32) (N : List Value) (Cn : List Int32) (U : List Int32) (k : Int32) (fd : Bool) (j : Int32) (q0 : Addr) (d0 : Int32) (q1 : Addr) (d1 : Int32) (as0 : Addr) (af0 : Addr) (ak0 : Addr) (bq6 : Addr) (ay9 : Int32) (ai0 : Addr) (ad0 : Addr) (al0 : Addr) (ax1 : Int32) (af2 : Int32) (am0 : Addr) (af1 : Addr) (ao2 : Addr) (ab0 : Int32) (h0 : Heap) (n0 : Nat) (Z0 : n0 ≤ h0.size) (E_o0 : Exa Z h0 o0 z_s1) (E_L0 : Exa Z h0 L0 z_s3) (al5 : Exa Z h0 af0 z_s0) (E_L1 : Exa Z h0 L1 z_s3) (az9 : Exa Z h0 ak0 z_s0) (E_o1 : Exa Z h0 o1 z_s2) (E_q0 : Exa Z h0 q0 z_s2) (E_q1 : Exa Z h0 q1 z_s2) (az3 : Fld Z h0 o0 z_s1 "levels" z_s4 (.ref as0)) (au2 : Fld Z h0 o0 z_s1 "depth" "I" (.int (1 : Int32))) (ax5 : Fld Z h0 o0 z_s1 "written" "I" (.int (0 : Int32))) (aj9 : Fld Z h0 L0 z_s3 "children" z_s6 (.ref af0)) (bf1 : Fld Z h0 L1 z_s3 "children" z_s6 (.ref ak0)) (br6 : Fld Z h0 L1 z_s3 "name" z_s5 (.ref bq6)) (bl1 : Fld Z h0 L1 z_s3 "index" "I" (.int ay9)) (af7 : Fld Z h0 ak0 z_s0 "size" "I" (.int (0 : Int32))) (ag7 : Fld Z h0 ak0 z_s0 "last" z_s5 .null) (as6 : Fld Z h0 af0 z_s0 "names" z_s8 (.ref ai0)) (ag5 : Fld Z h0 af0 z_s0 "counts" "[I" (.ref ad0)) (ad7 : Fld Z h0 af0 z_s0 "used" "[I" (.ref al0)) (ae7 : Fld Z h0 af0 z_s0 "size" "I" (.int ax1)) (ap5 : Fld Z h0 af0 z_s0 "last" z_s5 (.ref q1)) (aw4 : Fld Z h0 af0 z_s0 "lastSlot" "I" (.int af2)) (ag3 : Fld Z h0 o1 z_s2 "value" "[B" (.ref am0)) (ah3 : Fld Z h0 o1 z_s2 "coder" "B" (.int (0 : Int32))) (an3 : Fld Z h0 o1 z_s2 "hash" "I" (.int (0 : Int32))) (aa2 : Fld Z h0 o1 z_s2 "hashIsZero" "Z" (.int (0 : Int32))) (aj5 : Fld Z h0 q0 z_s2 "value" "[B" (.ref af1)) (ak5 : Fld Z h0 q0 z_s2 "coder" "B" (.int (0 : Int32))) (au9 : Fld Z h0 q1 z_s2 "value" "[B" (.ref ao2)) (av9 : Fld Z h0 q1 z_s2 "coder" "B" (.int (0 : Int32))) (ar0 : Sta Z h0 z_s2 "COMPACT_STRINGS" "Z" (.int ab0)) (ar3 : (ac2 z_s3) Z h0 as0 Lv) (ah6 : (ac2 z_s2) Z h0 ai0 N) (ax4 : ah1 Z h0 ad0 Cn) (ae9 : ah1 Z h0 al0 U) (aj2 : ax2 Z h0 am0 [c0]) (aq4 : ax2 Z h0 af1 [d0]) (a8 : ax2 Z h0 ao2 [d1]) (ah2 : n0 ≤ o0) (bs6 : n0 ≤ L1) (av8 : n0 ≤ ak0) (au8 : n0 ≤ af0) (ar7 : n0 ≤ ai0) (an4 : n0 ≤ ad0) (ab8 : n0 ≤ al0) (ae6 : n0 ≤ o1) (aq2 : o0 ≠ L1) (at1 : o0 ≠ ak0) (aq0 : o0 ≠ af0) (ab2 : o0 ≠ ai0) (ac1 : o0 ≠ ad0) (ai2 : o0 ≠ al0) (ap0 : o0 ≠ o1) (au1 : L1 ≠ ak0) (av0 : L1 ≠ af0) (aa3 : L1 ≠ ai0) (am1 : L1 ≠ ad0) (at3 : L1 ≠ al0) (aq5 : L1 ≠ o1) (ad1 : ak0 ≠ af0) (ac3 : ak0 ≠ ai0) (ap1 : ak0 ≠ ad0) (ab4 : ak0 ≠ al0) (ae4 : ak0 ≠ o1) (av3 : af0 ≠ ai0) (as3 : af0 ≠ ad0) (ad5 : af0 ≠ al0) (ap7 : af0 ≠ o1) (af4 : ai0 ≠ ad0) (al4 : ai0 ≠ al0) (az6 : ai0 ≠ o1) (ai4 : ad0 ≠ al0) (ab5 : ad0 ≠ o1) (ah7 : al0 ≠ o1) (cg4 : o0 ≠ L0) (aw9 : o0 ≠ q0) (bo6 : o0 ≠ q1) (ak4 : o0 ≠ as0) (az2 : o0 ≠ am0) (av4 : o0 ≠ af1) (aa8 : o0 ≠ ao2) (ch7 : L1 ≠ L0) (eu3 : L1 ≠ q0) (en7 : L1 ≠ q1) (bo7 : L1 ≠ as0) (ci7 : L1 ≠ am0) (cj7 : L1 ≠ af1) (ew3 : L1 ≠ ao2) (bh6 : ak0 ≠ L0) (cw4 : ak0 ≠ q0) (dy7 : ak0 ≠ q1) (bo0 : ak0 ≠ as0) (ce1 : ak0 ≠ am0) (cg1 : ak0 ≠ af1) (cy9 : ak0 ≠ ao2) (bg6 : af0 ≠ L0) (bi6 : af0 ≠ q0) (cx4 : af0 ≠ q1) (at6 : af0 ≠ as0) (ab6 : af0 ≠ am0) (bx0 : af0 ≠ af1) (ch1 : af0 ≠ ao2) (bt4 : ai0 ≠ L0) (by0 : ai0 ≠ q0) (ci1 : ai0 ≠ q1) (ad8 : ai0 ≠ as0) (at4 : ai0 ≠ am0) (aj8 : ai0 ≠ af1) (bj7 : ai0 ≠ ao2) (ai8 : ad0 ≠ L0) (bp0 : ad0 ≠ q0) (cj0 : ad0 ≠ q1) (aa4 : ad0 ≠ as0) (ar4 : ad0 ≠ am0) (ae8 : ad0 ≠ af1) (bt6 : ad0 ≠ ao2) (bb5 : al0 ≠ L0) (bg1 : al0 ≠ q0) (cn1 : al0 ≠ q1) (ak8 : al0 ≠ as0) (az4 : al0 ≠ am0) (aw8 : al0 ≠ af1) (bq7 : al0 ≠ ao2) (dc1 : o1 ≠ L0) (ad4 : o1 ≠ q0) (an5 : o1 ≠ q1) (bp7 : o1 ≠ as0) (ae2 : o1 ≠ am0) (ad3 : o1 ≠ af1) (az5 : o1 ≠ ao2) (hnz : ¬ (ab0 = (0 : Int32))) (hN : N.length = 16) (hCn : Cn.length = 16) (hU : U.length = 16) (hz : bg0 ax1) (hpr : ce9 N Cn c0 q0 d0 q1 d1 fd j k) (hl0 : Lv[0]? = some (.ref L0)) (hl1 : Lv[1]? = some (.ref L1)) (hll : Lv.length = 16) :
    ab3 l Z (⟨z_s1, "enter", z_s7⟩ : MethodName) prog_126_method_2_code 4 none ws ({ frames := 3, cells := 0, slots := 0, locals := 44 } : Room) #[(.ref o0), (.ref o1)] h0 (fun (v : Option Value) (h : Heap) (L : List Loc) => v = none ∧ Fr n0 L ∧ Keep h0 h [o0, L1, ak0, af0, ai0, ad0, al0, o1] ∧ Exa Z h o0 z_s1 ∧ Exa Z h af0 z_s0 ∧ Exa Z h L1 z_s3 ∧ Exa Z h ak0 z_s0 ∧ Exa Z h o1 z_s2 ∧ Fld Z h o0 z_s1 "levels" z_s4 (.ref as0) ∧ Fld Z h o0 z_s1 "depth" "I" (.int (2 : Int32)) ∧ Fld Z h o0 z_s1 "written" "I" (.int (0 : Int32)) ∧ Fld Z h L1 z_s3 "children" z_s6 (.ref ak0) ∧ Fld Z h L1 z_s3 "name" z_s5 (.ref o1) ∧ Fld Z h L1 z_s3 "index" "I" (.int (ax0 fd k)) ∧ Fld Z h ak0 z_s0 "size" "I" (.int (0 : Int32)) ∧ Fld Z h ak0 z_s0 "last" z_s5 .null ∧ Fld Z h af0 z_s0 "names" z_s8 (.ref ai0) ∧ Fld Z h af0 z_s0 "counts" "[I" (.ref ad0) ∧ Fld Z h af0 z_s0 "used" "[I" (.ref al0) ∧ Fld Z h af0 z_s0 "size" "I" (.int (ac5 fd ax1)) ∧ Fld Z h af0 z_s0 "last" z_s5 (.ref o1) ∧ Fld Z h af0 z_s0 "lastSlot" "I" (.int j) ∧ Fld Z h o1 z_s2 "value" "[B" (.ref am0) ∧ Fld Z h o1 z_s2 "coder" "B" (.int (0 : Int32)) ∧ Fld Z h o1 z_s2 "hash" "I" (.int (ak1 c0)) ∧ Fld Z h o1 z_s2 "hashIsZero" "Z" (.int (aj6 (ak1 c0))) ∧ (ac2 z_s2) Z h ai0 (ap4 fd N (ah0 j) o1) ∧ ah1 Z h ad0 (ai3 fd Cn (ah0 j) k) ∧ ah1 Z h al0 (ap6 fd U (ah0 ax1) j)) := by
  refine al3 (plainFor_of_name ar1) ?_
  intro p e s m below meth c s₁ P hx hby hml hrt hlk hown hnm hZ X0 e0 hP
  have N0 := Fr.nil n0
  have K0 := Keep.refl h0 [o0, L1, ak0, af0, ai0, ad0, al0, o1]
  have hml' : c.maxLocals = 4 := hml
  refine ac4 (ev3 m o0 o1) ?_
  show aa0 p e below P (s₁.setTop (mkF m 0 #[.val (.ref o0), .val (.ref o1), .unset, .unset] []))
  refine ae0 X0 hx (hb hby bg7) rfl rfl ?_
  refine au0 X0 hx hZ hown (host := "") (Or.inl (z_w hw 45 rfl)) Via.refl e0 au2 (hb hby bh7) (fun T1 X1 e1 => ?_)
  refine al7 X1 hx (pc' := 11) (hb hby bi7) ((if0 _ _).trans (feq (by decide : ¬ ((1 : Int32) = (0 : Int32)))).2) ?_
  refine ae0 X1 hx (hb hby br7) rfl rfl ?_
  refine au0 X1 hx hZ hown (host := "") (Or.inl (z_w hw 35 rfl)) Via.refl e1 az3 (hb hby bs7) (fun T2 X2 e2 => ?_)
  refine ae0 X2 hx (hb hby bt7) rfl rfl ?_
  refine au0 X2 hx hZ hown (host := "") (Or.inl (z_w hw 45 rfl)) Via.refl e2 au2 (hb hby bu7) (fun T3 X3 e3 => ?_)
  refine az0 X3 hx (hb hby bv7) (z := (1 : Int32)) rfl ?_
  refine bt1 X3 hx (hb hby bw7) (z := (0 : Int32)) rfl ?_
  refine ay2 X3 hx hZ e3 ar3 (j := (0 : Int32)) (v := (.ref L0)) (i := 0) (by decide) hl0 (hb hby bx7) ?_
  obtain ⟨T4, X4, e4, st4⟩ := bl0 X3 hx hZ hown (z_w hw 76 rfl) Via.refl e3 aj9 (g := (mkF m 22 #[.val (.ref o0), .val (.ref o1), .unset, .unset] [(.ref L0)])) rfl rfl (hb hby by7)
  refine an1 (fun _ => st4 _) ?_
  show aa0 p e below P (T4.setTop (mkF m 25 #[.val (.ref o0), .val (.ref o1), .unset, .unset] [(.ref af0)]))
  refine ae0 X4 hx (hb hby bz7) rfl rfl ?_
  refine az1 X4 hx hZ (y := (⟨z_s0, "count", z_s9⟩ : MethodName)) (z := (⟨z_s0, "count", z_s9⟩ : MethodName)) hown (z_w hw 92 rfl) (z_w hw 93 rfl) (notFace_of_selects (args := #[]) (mvT hZ (z_w hw 95 rfl))) (z_w hw 95 rfl) (z_w hw 94 rfl) (z_w hw 55 rfl) (z_w hw 96 rfl) al5 (el3 l Z a0 hw [] af0 o1 c0 N Cn U k fd j q0 d0 q1 d1 ai0 ad0 al0 ax1 af2 am0 af1 ao2 ab0 h0 n0 (Nat.le_trans Z0 K0.1) al5 E_o1 E_q0 E_q1 as6 ag5 ad7 ae7 ap5 aw4 ag3 ah3 an3 aa2 aj5 ak5 au9 av9 ar0 ah6 ax4 ae9 aj2 aq4 a8 au8 ar7 an4 ab8 ae6 av3 as3 ad5 ap7 af4 al4 az6 ai4 ab5 ah7 ab6 bi6 bx0 cx4 ch1 at4 by0 aj8 ci1 bj7 ar4 bp0 ae8 cj0 bt6 az4 bg1 aw8 cn1 bq7 ae2 ad4 ad3 an5 az5 hnz hN hCn hU hz hpr) 0 e4 hml' (argsL := [(.ref o1)]) (rest := []) (lenOf af6 rfl) (hb hby b8) (fun r5 T5 L5 X5 hQ5 => ?_)
  obtain ⟨rfl, Nq5, Kq5, f0_5, f1_5, f2_5, f3_5, f4_5, f5_5, f6_5, f7_5, f8_5, f9_5, f10_5, f11_5, f12_5, f13_5, f14_5⟩ := hQ5
  have N5 := Fr.app N0 Nq5
  have K5 := Keep.trans K0 Kq5 (allS (Or.inl (List.mem_of_getElem? (i := 3) rfl)) (allS (Or.inl (List.mem_of_getElem? (i := 4) rfl)) (allS (Or.inl (List.mem_of_getElem? (i := 5) rfl)) (allS (Or.inl (List.mem_of_getElem? (i := 6) rfl)) (allS (Or.inl (List.mem_of_getElem? (i := 7) rfl)) all0)))))
  show aa0 p e below P (T5.setTop (mkF m 29 #[.val (.ref o0), .val (.ref o1), .unset, .unset] [(.int (ax0 fd k))]))
  refine ag4 X5 hx (hb hby bm5) (l' := #[.val (.ref o0), .val (.ref o1), .val (.int (ax0 fd k)), .unset]) rfl ?_
  refine ae0 X5 hx (hb hby bn5) rfl rfl ?_
  have G6 := (au2.keep Kq5 (ninS aq0 (ninS ab2 (ninS ac1 (ninS ai2 (ninS ap0 nin0))))))
  refine au0 X5 hx hZ hown (host := "") (Or.inl (z_w hw 45 rfl)) Via.refl rfl G6 (hb hby bo5) (fun T7 X7 e7 => ?_)
  refine ae0 X7 hx (hb hby bp5) rfl rfl ?_
  have G8 := (az3.keep Kq5 (ninS aq0 (ninS ab2 (ninS ac1 (ninS ai2 (ninS ap0 nin0))))))
  refine au0 X7 hx hZ hown (host := "") (Or.inl (z_w hw 35 rfl)) Via.refl e7 G8 (hb hby bq5) (fun T9 X9 e9 => ?_)
  have G10 := (ar3.keep Kq5 (ninS at6.symm (ninS ad8.symm (ninS aa4.symm (ninS ak8.symm (ninS bp7.symm nin0))))))
  refine ao9 X9 hx hZ e9 G10 (z := (16 : Int32)) (show Int32.ofNat Lv.length = (16 : Int32) from by rw [hll]; rfl) (hb hby br5) ?_
  refine au3 X9 hx (pc' := 62) (hb hby bs5) (feq (by decide : ¬ ((1 : Int32) = (16 : Int32)))).2 ?_
  refine ae0 X9 hx (hb hby bt5) rfl rfl ?_
  refine au0 X9 hx hZ hown (host := "") (Or.inl (z_w hw 35 rfl)) Via.refl e9 G8 (hb hby bu5) (fun T11 X11 e11 => ?_)
  refine ae0 X11 hx (hb hby bv5) rfl rfl ?_
  refine au0 X11 hx hZ hown (host := "") (Or.inl (z_w hw 45 rfl)) Via.refl e11 G6 (hb hby bw5) (fun T12 X12 e12 => ?_)
  refine ay2 X12 hx hZ e12 G10 (j := (1 : Int32)) (v := (.ref L1)) (i := 1) (by decide) hl1 (hb hby bx5) ?_
  refine bj2 X12 hx (hb hby by5) rfl (l' := #[.val (.ref o0), .val (.ref o1), .val (.int (ax0 fd k)), .val (.ref L1)]) rfl ?_
  refine ae0 X12 hx (hb hby bz5) rfl rfl ?_
  refine bf7 X12 hx (pc' := 94) (hb hby ba6) ?_
  refine ae0 X12 hx (hb hby bb6) rfl rfl ?_
  refine ae0 X12 hx (hb hby bc6) rfl rfl ?_
  have G13 := (br6.keep Kq5 (ninS av0 (ninS aa3 (ninS am1 (ninS at3 (ninS aq5 nin0))))))
  have G14 := (E_L1.keep Kq5)
  obtain ⟨T15, h15, X15, e15, W15, st15⟩ := be1 X12 hx hZ hown (z_w hw 72 rfl) Via.refl e12 G13 G14 ((z_w hw 73 rfl)) (z_w hw 47 rfl) (ty := (.object z_s2)) (by decide) rfl rfl (g := (mkF m 96 #[.val (.ref o0), .val (.ref o1), .val (.int (ax0 fd k)), .val (.ref L1)] [(.ref o1), (.ref L1)])) rfl rfl (hb hby bd6)
  have N15 := Fr.snoc X15 N5 bs6
  have K15 := Keep.wr K5 W15 (Or.inl (List.mem_of_getElem? (i := 1) rfl))
  have F15 := G13.same W15
  refine an1 (fun _ => st15 _) ?_
  show aa0 p e below P (T15.setTop (mkF m 99 #[.val (.ref o0), .val (.ref o1), .val (.int (ax0 fd k)), .val (.ref L1)] []))
  refine ae0 X15 hx (hb hby be6) rfl rfl ?_
  refine ae1 X15 hx (hb hby bx3) rfl ?_
  have G16 := ((bl1.keep Kq5 (ninS av0 (ninS aa3 (ninS am1 (ninS at3 (ninS aq5 nin0)))))).other W15 (Or.inr (slot_ne (Or.inl (z_w hw 75 rfl)) (Or.inl (z_w hw 73 rfl)) (by decide) (t := .int) (t' := (.object z_s2)) (by decide) (by decide))))
  have G17 := (G14.wr W15)
  obtain ⟨T18, h18, X18, e18, W18, st18⟩ := be1 X15 hx hZ hown (z_w hw 74 rfl) Via.refl e15 G16 G17 ((z_w hw 75 rfl)) (z_w hw 47 rfl) (ty := .int) (by decide) rfl rfl (g := (mkF m 101 #[.val (.ref o0), .val (.ref o1), .val (.int (ax0 fd k)), .val (.ref L1)] [(.int (ax0 fd k)), (.ref L1)])) rfl rfl (hb hby by3)
  have N18 := Fr.snoc X18 N15 bs6
  have K18 := Keep.wr K15 W18 (Or.inl (List.mem_of_getElem? (i := 1) rfl))
  have F18 := G16.same W18
  refine an1 (fun _ => st18 _) ?_
  show aa0 p e below P (T18.setTop (mkF m 104 #[.val (.ref o0), .val (.ref o1), .val (.int (ax0 fd k)), .val (.ref L1)] []))
  refine ae0 X18 hx (hb hby bz3) rfl rfl ?_
  have G19 := (((bf1.keep Kq5 (ninS av0 (ninS aa3 (ninS am1 (ninS at3 (ninS aq5 nin0)))))).other W15 (Or.inr (slot_ne (Or.inr (z_w hw 70 rfl)) (Or.inl (z_w hw 73 rfl)) (by decide) (t := (.object z_s0)) (t' := (.object z_s2)) (by decide) (by decide)))).other W18 (Or.inr (slot_ne (Or.inr (z_w hw 70 rfl)) (Or.inl (z_w hw 75 rfl)) (by decide) (t := (.object z_s0)) (t' := .int) (by decide) (by decide))))
  obtain ⟨T20, X20, e20, st20⟩ := bl0 X18 hx hZ hown (z_w hw 76 rfl) Via.refl e18 G19 (g := (mkF m 105 #[.val (.ref o0), .val (.ref o1), .val (.int (ax0 fd k)), .val (.ref L1)] [(.ref L1)])) rfl rfl (hb hby b4)
  refine an1 (fun _ => st20 _) ?_
  show aa0 p e below P (T20.setTop (mkF m 108 #[.val (.ref o0), .val (.ref o1), .val (.int (ax0 fd k)), .val (.ref L1)] [(.ref ak0)]))
  have G22 := (((az9.keep Kq5).wr W15).wr W18)
  have G23 := (((af7.keep Kq5 (ninS ad1 (ninS ac3 (ninS ap1 (ninS ab4 (ninS ae4 nin0)))))).other W15 (Or.inl au1.symm)).other W18 (Or.inl au1.symm))
  have G24 := (((ag7.keep Kq5 (ninS ad1 (ninS ac3 (ninS ap1 (ninS ab4 (ninS ae4 nin0)))))).other W15 (Or.inl au1.symm)).other W18 (Or.inl au1.symm))
  refine az1 X20 hx hZ (y := (⟨z_s0, "clear", "()V"⟩ : MethodName)) (z := (⟨z_s0, "clear", "()V"⟩ : MethodName)) hown (z_w hw 77 rfl) (z_w hw 78 rfl) (notFace_of_selects (args := #[]) (mvT hZ (z_w hw 80 rfl))) (z_w hw 80 rfl) (z_w hw 79 rfl) (z_w hw 55 rfl) (z_w hw 81 rfl) G22 (cs3 l Z a0 hw [] ak0  h18 n0 (Nat.le_trans Z0 K18.1) G22 G23 G24 av8) 0 e20 hml' (argsL := []) (rest := []) (lenOf as2 rfl) (hb hby ba4) (fun r21 T21 L21 X21 hQ21 => ?_)
  obtain ⟨rfl, Nq21, Kq21, f0_21, f1_21, f2_21⟩ := hQ21
  have N21 := Fr.app N18 Nq21
  have K21 := Keep.trans K18 Kq21 (allS (Or.inl (List.mem_of_getElem? (i := 2) rfl)) all0)
  show aa0 p e below P (T21.setTop (mkF m 111 #[.val (.ref o0), .val (.ref o1), .val (.int (ax0 fd k)), .val (.ref L1)] []))
  refine ae0 X21 hx (hb hby bb4) rfl rfl ?_
  refine ae0 X21 hx (hb hby bc4) rfl rfl ?_
  have G25 := ((((ax5.keep Kq5 (ninS aq0 (ninS ab2 (ninS ac1 (ninS ai2 (ninS ap0 nin0)))))).other W15 (Or.inl aq2)).other W18 (Or.inl aq2)).keep Kq21 (ninS at1 nin0))
  refine au0 X21 hx hZ hown (host := "") (Or.inl (z_w hw 86 rfl)) Via.refl rfl G25 (hb hby bd4) (fun T26 X26 e26 => ?_)
  refine ae0 X26 hx (hb hby be4) rfl rfl ?_
  have G27 := (((G6.other W15 (Or.inl aq2)).other W18 (Or.inl aq2)).keep Kq21 (ninS at1 nin0))
  refine au0 X26 hx hZ hown (host := "") (Or.inl (z_w hw 45 rfl)) Via.refl e26 G27 (hb hby bf4) (fun T28 X28 e28 => ?_)
  refine as5 X28 hx hZ (y := (⟨"java/lang/Math", "min", "(II)I"⟩ : MethodName)) hown (z_w hw 88 rfl) (z_w hw 89 rfl) (z_w hw 90 rfl) (z_w hw 91 rfl) (cc0 l Z a0 hw [] (0 : Int32) (1 : Int32)  T21.heap n0 (Nat.le_trans Z0 K21.1) ) 1 e28 hml' (argsL := [(.int (0 : Int32)), (.int (1 : Int32))]) (rest := [(.ref o0)]) (lenOf bb1 rfl) (hb hby bg4) (fun r29 T29 L29 X29 hQ29 => ?_)
  obtain ⟨rfl, Nq29, eq29⟩ := hQ29
  have N29 := Fr.app N21 Nq29
  show aa0 p e below P (T29.setTop (mkF m 123 #[.val (.ref o0), .val (.ref o1), .val (.int (ax0 fd k)), .val (.ref L1)] [(.int (al9 (0 : Int32) (1 : Int32))), (.ref o0)]))
  rw [show (al9 (0 : Int32) (1 : Int32)) = (0 : Int32) from by decide]
  show aa0 p e below P (T29.setTop (mkF m 123 #[.val (.ref o0), .val (.ref o1), .val (.int (ax0 fd k)), .val (.ref L1)] [(.int (0 : Int32)), (.ref o0)]))
  have G30 := ((((E_o0.keep Kq5).wr W15).wr W18).keep Kq21)
  refine am4 X29 hx hZ hown (host := "") (Or.inl (z_w hw 86 rfl)) Via.refl eq29 G25 G30 (Or.inl (z_w hw 87 rfl)) (z_w hw 27 rfl) (ty := .int) (by decide) (hb hby bh4) (fun T31 h31 X31 e31 W31 => ?_)
  have N31 := Fr.snoc X31 N29 ah2
  have K31 := Keep.wr K21 W31 (Or.inl (List.mem_of_getElem? (i := 0) rfl))
  have F31 := G25.same W31
  refine ae0 X31 hx (hb hby bi4) rfl rfl ?_
  refine bi0 X31 hx (hb hby bj4) rfl ?_
  have G32 := (G27.other W31 (Or.inr (slot_ne (Or.inl (z_w hw 46 rfl)) (Or.inl (z_w hw 87 rfl)) (by decide) (t := .int) (t' := .int) (by decide) (by decide))))
  refine au0 X31 hx hZ hown (host := "") (Or.inl (z_w hw 45 rfl)) Via.refl e31 G32 (hb hby bk4) (fun T33 X33 e33 => ?_)
  refine az0 X33 hx (hb hby bl4) (z := (1 : Int32)) rfl ?_
  refine ad6 X33 hx (hb hby bm4) (z := (2 : Int32)) rfl ?_
  have G34 := (G30.wr W31)
  refine am4 X33 hx hZ hown (host := "") (Or.inl (z_w hw 45 rfl)) Via.refl e33 G32 G34 (Or.inl (z_w hw 46 rfl)) (z_w hw 27 rfl) (ty := .int) (by decide) (hb hby bn4) (fun T35 h35 X35 e35 W35 => ?_)
  have N35 := Fr.snoc X35 N31 ah2
  have K35 := Keep.wr K31 W35 (Or.inl (List.mem_of_getElem? (i := 0) rfl))
  have F35 := G32.same W35
  have G36 := (G34.wr W35)
  have G37 := (((((f0_5.wr W15).wr W18).keep Kq21).wr W31).wr W35)
  have G38 := ((((G17.wr W18).keep Kq21).wr W31).wr W35)
  have G39 := ((f0_21.wr W31).wr W35)
  have G40 := (((((f10_5.wr W15).wr W18).keep Kq21).wr W31).wr W35)
  have G41 := (((((G8.other W15 (Or.inl aq2)).other W18 (Or.inl aq2)).keep Kq21 (ninS at1 nin0)).other W31 (Or.inr (slot_ne (Or.inl (z_w hw 36 rfl)) (Or.inl (z_w hw 87 rfl)) (by decide) (t := (.array (.object z_s3))) (t' := .int) (by decide) (by decide)))).other W35 (Or.inr (slot_ne (Or.inl (z_w hw 36 rfl)) (Or.inl (z_w hw 46 rfl)) (by decide) (t := (.array (.object z_s3))) (t' := .int) (by decide) (by decide))))
  have G42 := (F31.other W35 (Or.inr (slot_ne (Or.inl (z_w hw 87 rfl)) (Or.inl (z_w hw 46 rfl)) (by decide) (t := .int) (t' := .int) (by decide) (by decide))))
  have G43 := (((G19.keep Kq21 (ninS au1 nin0)).other W31 (Or.inl aq2.symm)).other W35 (Or.inl aq2.symm))
  have G44 := ((((F15.other W18 (Or.inr (slot_ne (Or.inl (z_w hw 73 rfl)) (Or.inl (z_w hw 75 rfl)) (by decide) (t := (.object z_s2)) (t' := .int) (by decide) (by decide)))).keep Kq21 (ninS au1 nin0)).other W31 (Or.inl aq2.symm)).other W35 (Or.inl aq2.symm))
  have G45 := (((F18.keep Kq21 (ninS au1 nin0)).other W31 (Or.inl aq2.symm)).other W35 (Or.inl aq2.symm))
  have G46 := ((f1_21.other W31 (Or.inl at1.symm)).other W35 (Or.inl at1.symm))
  have G47 := ((f2_21.other W31 (Or.inl at1.symm)).other W35 (Or.inl at1.symm))
  have G48 := (((((f1_5.other W15 (Or.inl av0.symm)).other W18 (Or.inl av0.symm)).keep Kq21 (ninS ad1.symm nin0)).other W31 (Or.inl aq0.symm)).other W35 (Or.inl aq0.symm))
  have G49 := (((((f2_5.other W15 (Or.inl av0.symm)).other W18 (Or.inl av0.symm)).keep Kq21 (ninS ad1.symm nin0)).other W31 (Or.inl aq0.symm)).other W35 (Or.inl aq0.symm))
  have G50 := (((((f3_5.other W15 (Or.inl av0.symm)).other W18 (Or.inl av0.symm)).keep Kq21 (ninS ad1.symm nin0)).other W31 (Or.inl aq0.symm)).other W35 (Or.inl aq0.symm))
  have G51 := (((((f4_5.other W15 (Or.inl av0.symm)).other W18 (Or.inl av0.symm)).keep Kq21 (ninS ad1.symm nin0)).other W31 (Or.inl aq0.symm)).other W35 (Or.inl aq0.symm))
  have G52 := (((((f5_5.other W15 (Or.inl av0.symm)).other W18 (Or.inl av0.symm)).keep Kq21 (ninS ad1.symm nin0)).other W31 (Or.inl aq0.symm)).other W35 (Or.inl aq0.symm))
  have G53 := (((((f6_5.other W15 (Or.inl av0.symm)).other W18 (Or.inl av0.symm)).keep Kq21 (ninS ad1.symm nin0)).other W31 (Or.inl aq0.symm)).other W35 (Or.inl aq0.symm))
  have G54 := (((((f11_5.other W15 (Or.inl aq5.symm)).other W18 (Or.inl aq5.symm)).keep Kq21 (ninS ae4.symm nin0)).other W31 (Or.inl ap0.symm)).other W35 (Or.inl ap0.symm))
  have G55 := (((((f12_5.other W15 (Or.inl aq5.symm)).other W18 (Or.inl aq5.symm)).keep Kq21 (ninS ae4.symm nin0)).other W31 (Or.inl ap0.symm)).other W35 (Or.inl ap0.symm))
  have G56 := (((((f13_5.other W15 (Or.inl aq5.symm)).other W18 (Or.inl aq5.symm)).keep Kq21 (ninS ae4.symm nin0)).other W31 (Or.inl ap0.symm)).other W35 (Or.inl ap0.symm))
  have G57 := (((((f14_5.other W15 (Or.inl aq5.symm)).other W18 (Or.inl aq5.symm)).keep Kq21 (ninS ae4.symm nin0)).other W31 (Or.inl ap0.symm)).other W35 (Or.inl ap0.symm))
  have G58 := (((((f7_5.other W15 aa3.symm).other W18 aa3.symm).keep Kq21 (ninS ac3.symm nin0)).other W31 ab2.symm).other W35 ab2.symm)
  have G59 := (((((f8_5.other W15 am1.symm).other W18 am1.symm).keep Kq21 (ninS ap1.symm nin0)).other W31 ac1.symm).other W35 ac1.symm)
  have G60 := (((((f9_5.other W15 at3.symm).other W18 at3.symm).keep Kq21 (ninS ab4.symm nin0)).other W31 ai2.symm).other W35 ai2.symm)
  have hfin : ((fun (v : Option Value) (h : Heap) (L : List Loc) => v = none ∧ Fr n0 L ∧ Keep h0 h [o0, L1, ak0, af0, ai0, ad0, al0, o1] ∧ Exa Z h o0 z_s1 ∧ Exa Z h af0 z_s0 ∧ Exa Z h L1 z_s3 ∧ Exa Z h ak0 z_s0 ∧ Exa Z h o1 z_s2 ∧ Fld Z h o0 z_s1 "levels" z_s4 (.ref as0) ∧ Fld Z h o0 z_s1 "depth" "I" (.int (2 : Int32)) ∧ Fld Z h o0 z_s1 "written" "I" (.int (0 : Int32)) ∧ Fld Z h L1 z_s3 "children" z_s6 (.ref ak0) ∧ Fld Z h L1 z_s3 "name" z_s5 (.ref o1) ∧ Fld Z h L1 z_s3 "index" "I" (.int (ax0 fd k)) ∧ Fld Z h ak0 z_s0 "size" "I" (.int (0 : Int32)) ∧ Fld Z h ak0 z_s0 "last" z_s5 .null ∧ Fld Z h af0 z_s0 "names" z_s8 (.ref ai0) ∧ Fld Z h af0 z_s0 "counts" "[I" (.ref ad0) ∧ Fld Z h af0 z_s0 "used" "[I" (.ref al0) ∧ Fld Z h af0 z_s0 "size" "I" (.int (ac5 fd ax1)) ∧ Fld Z h af0 z_s0 "last" z_s5 (.ref o1) ∧ Fld Z h af0 z_s0 "lastSlot" "I" (.int j) ∧ Fld Z h o1 z_s2 "value" "[B" (.ref am0) ∧ Fld Z h o1 z_s2 "coder" "B" (.int (0 : Int32)) ∧ Fld Z h o1 z_s2 "hash" "I" (.int (ak1 c0)) ∧ Fld Z h o1 z_s2 "hashIsZero" "Z" (.int (aj6 (ak1 c0))) ∧ (ac2 z_s2) Z h ai0 (ap4 fd N (ah0 j) o1) ∧ ah1 Z h ad0 (ai3 fd Cn (ah0 j) k) ∧ ah1 Z h al0 (ap6 fd U (ah0 ax1) j))) none h35 _ := ⟨rfl, N35, K35, G36, G37, G38, G39, G40, G41, F35, G42, G43, G44, G45, G46, G47, G48, G49, G50, G51, G52, G53, G54, G55, G56, G57, G58, G59, G60⟩
  refine bj0 X35 hx hlk hP hrt (hb hby bo4) (by decide) (by decide) ?_
  rw [e35]; exact hfin
theorem dp7 : decode prog_126_method_3_code 0 = .ok (.aload_n 0, 1) := by decide +kernel
theorem dq7 : decode prog_126_method_3_code 1 = .ok (.getfield 19, 3) := by decide +kernel
theorem dr7 : decode prog_126_method_3_code 4 = .ok (.ifCond .ne 13, 3) := by decide +kernel
theorem df4 : decode prog_126_method_3_code 17 = .ok (.aload_n 0, 1) := by decide +kernel
theorem dg4 : decode prog_126_method_3_code 18 = .ok (.dup, 1) := by decide +kernel
theorem dh4 : decode prog_126_method_3_code 19 = .ok (.getfield 19, 3) := by decide +kernel
theorem di4 : decode prog_126_method_3_code 22 = .ok (.iconst 1, 1) := by decide +kernel
theorem dj4 : decode prog_126_method_3_code 23 = .ok (.isub, 1) := by decide +kernel
theorem dk4 : decode prog_126_method_3_code 24 = .ok (.putfield 19, 3) := by decide +kernel
theorem dl4 : decode prog_126_method_3_code 27 = .ok (.return_, 1) := by decide +kernel
theorem ex3 (m : MethodId) (o0 : Addr) : entryFrame m #[(.ref o0)] 1 = mkF m 0 #[.val (.ref o0)] [] := by first | (simp [entryFrame, mkF, argsToLocals, Value.category]; done) | rfl
set_option maxRecDepth 65536 in
set_option maxHeartbeats 40000000 in
theorem az8 (l : Launch) (Z : State) (a0 : Array Value) (hw : ∀ d ∈ tables_1, d.before a0 Z = true) (ws : List Jvm.Cond) (o0 : Addr) (as0 : Addr) (h0 : Heap) (n0 : Nat) (Z0 : n0 ≤ h0.size) (E_o0 : Exa Z h0 o0 z_s1) (az3 : Fld Z h0 o0 z_s1 "levels" z_s4 (.ref as0)) (au2 : Fld Z h0 o0 z_s1 "depth" "I" (.int (2 : Int32))) (ax5 : Fld Z h0 o0 z_s1 "written" "I" (.int (0 : Int32))) (ah2 : n0 ≤ o0) :
    ab3 l Z (⟨z_s1, "leave", "()V"⟩ : MethodName) prog_126_method_3_code 1 none ws ({ frames := 0, cells := 0, slots := 0, locals := 0 } : Room) #[(.ref o0)] h0 (fun (v : Option Value) (h : Heap) (L : List Loc) => v = none ∧ Fr n0 L ∧ Keep h0 h [o0] ∧ Exa Z h o0 z_s1 ∧ Fld Z h o0 z_s1 "levels" z_s4 (.ref as0) ∧ Fld Z h o0 z_s1 "depth" "I" (.int (1 : Int32)) ∧ Fld Z h o0 z_s1 "written" "I" (.int (0 : Int32))) := by
  refine al3 (plainFor_of_name ar1) ?_
  intro p e s m below meth c s₁ P hx hby hml hrt hlk hown hnm hZ X0 e0 hP
  have N0 := Fr.nil n0
  have K0 := Keep.refl h0 [o0]
  have hml' : c.maxLocals = 1 := hml
  refine ac4 (ex3 m o0) ?_
  show aa0 p e below P (s₁.setTop (mkF m 0 #[.val (.ref o0)] []))
  refine ae0 X0 hx (hb hby dp7) rfl rfl ?_
  refine au0 X0 hx hZ hown (host := "") (Or.inl (z_w hw 45 rfl)) Via.refl e0 au2 (hb hby dq7) (fun T1 X1 e1 => ?_)
  refine al7 X1 hx (pc' := 17) (hb hby dr7) ((if0 _ _).trans (feq (by decide : ¬ ((2 : Int32) = (0 : Int32)))).2) ?_
  refine ae0 X1 hx (hb hby df4) rfl rfl ?_
  refine bi0 X1 hx (hb hby dg4) rfl ?_
  refine au0 X1 hx hZ hown (host := "") (Or.inl (z_w hw 45 rfl)) Via.refl e1 au2 (hb hby dh4) (fun T2 X2 e2 => ?_)
  refine az0 X2 hx (hb hby di4) (z := (1 : Int32)) rfl ?_
  refine bt1 X2 hx (hb hby dj4) (z := (1 : Int32)) rfl ?_
  refine am4 X2 hx hZ hown (host := "") (Or.inl (z_w hw 45 rfl)) Via.refl e2 au2 E_o0 (Or.inl (z_w hw 46 rfl)) (z_w hw 27 rfl) (ty := .int) (by decide) (hb hby dk4) (fun T3 h3 X3 e3 W3 => ?_)
  have N3 := Fr.snoc X3 N0 ah2
  have K3 := Keep.wr K0 W3 (Or.inl (List.mem_of_getElem? (i := 0) rfl))
  have F3 := au2.same W3
  have G4 := (E_o0.wr W3)
  have G5 := (az3.other W3 (Or.inr (slot_ne (Or.inl (z_w hw 36 rfl)) (Or.inl (z_w hw 46 rfl)) (by decide) (t := (.array (.object z_s3))) (t' := .int) (by decide) (by decide))))
  have G6 := (ax5.other W3 (Or.inr (slot_ne (Or.inl (z_w hw 87 rfl)) (Or.inl (z_w hw 46 rfl)) (by decide) (t := .int) (t' := .int) (by decide) (by decide))))
  have hfin : ((fun (v : Option Value) (h : Heap) (L : List Loc) => v = none ∧ Fr n0 L ∧ Keep h0 h [o0] ∧ Exa Z h o0 z_s1 ∧ Fld Z h o0 z_s1 "levels" z_s4 (.ref as0) ∧ Fld Z h o0 z_s1 "depth" "I" (.int (1 : Int32)) ∧ Fld Z h o0 z_s1 "written" "I" (.int (0 : Int32)))) none h3 _ := ⟨rfl, N3, K3, G4, G5, F3, G6⟩
  refine bj0 X3 hx hlk hP hrt (hb hby dl4) (by decide) (by decide) ?_
  rw [e3]; exact hfin
theorem ck8 : decode prog_126_method_5_code 0 = .ok (.aload_n 0, 1) := by decide +kernel
theorem cl8 : decode prog_126_method_5_code 1 = .ok (.getfield 19, 3) := by decide +kernel
theorem cm8 : decode prog_126_method_5_code 4 = .ok (.ifCond .ne 13, 3) := by decide +kernel
theorem ck6 : decode prog_126_method_5_code 17 = .ok (.aload_n 0, 1) := by decide +kernel
theorem cl6 : decode prog_126_method_5_code 18 = .ok (.getfield 11, 3) := by decide +kernel
theorem cm6 : decode prog_126_method_5_code 21 = .ok (.aload_n 0, 1) := by decide +kernel
theorem cn6 : decode prog_126_method_5_code 22 = .ok (.getfield 19, 3) := by decide +kernel
theorem co6 : decode prog_126_method_5_code 25 = .ok (.iconst 1, 1) := by decide +kernel
theorem cp6 : decode prog_126_method_5_code 26 = .ok (.isub, 1) := by decide +kernel
theorem cq6 : decode prog_126_method_5_code 27 = .ok (.aaload, 1) := by decide +kernel
theorem cr6 : decode prog_126_method_5_code 28 = .ok (.getfield 45, 3) := by decide +kernel
theorem cs6 : decode prog_126_method_5_code 31 = .ok (.ireturn, 1) := by decide +kernel
theorem ek1 (m : MethodId) (o0 : Addr) : entryFrame m #[(.ref o0)] 1 = mkF m 0 #[.val (.ref o0)] [] := by first | (simp [entryFrame, mkF, argsToLocals, Value.category]; done) | rfl
set_option maxRecDepth 65536 in
set_option maxHeartbeats 40000000 in
theorem ck0 (l : Launch) (Z : State) (a0 : Array Value) (hw : ∀ d ∈ tables_1, d.before a0 Z = true) (ws : List Jvm.Cond) (o0 : Addr) (L1 : Addr) (Lv : List Value) (as0 : Addr) (ay9 : Int32) (h0 : Heap) (n0 : Nat) (Z0 : n0 ≤ h0.size) (az3 : Fld Z h0 o0 z_s1 "levels" z_s4 (.ref as0)) (au2 : Fld Z h0 o0 z_s1 "depth" "I" (.int (2 : Int32))) (bl1 : Fld Z h0 L1 z_s3 "index" "I" (.int ay9)) (ar3 : (ac2 z_s3) Z h0 as0 Lv) (hl : Lv[1]? = some (.ref L1)) :
    ab3 l Z (⟨z_s1, "index", "()I"⟩ : MethodName) prog_126_method_5_code 1 (some .int) ws ({ frames := 0, cells := 0, slots := 0, locals := 0 } : Room) #[(.ref o0)] h0 (fun (v : Option Value) (h : Heap) (L : List Loc) => v = some (.int ay9) ∧ Fr n0 L ∧ h = h0) := by
  refine al3 (plainFor_of_name ar1) ?_
  intro p e s m below meth c s₁ P hx hby hml hrt hlk hown hnm hZ X0 e0 hP
  have N0 := Fr.nil n0
  have K0 := Keep.refl h0 []
  have hml' : c.maxLocals = 1 := hml
  refine ac4 (ek1 m o0) ?_
  show aa0 p e below P (s₁.setTop (mkF m 0 #[.val (.ref o0)] []))
  refine ae0 X0 hx (hb hby ck8) rfl rfl ?_
  refine au0 X0 hx hZ hown (host := "") (Or.inl (z_w hw 45 rfl)) Via.refl e0 au2 (hb hby cl8) (fun T1 X1 e1 => ?_)
  refine al7 X1 hx (pc' := 17) (hb hby cm8) ((if0 _ _).trans (feq (by decide : ¬ ((2 : Int32) = (0 : Int32)))).2) ?_
  refine ae0 X1 hx (hb hby ck6) rfl rfl ?_
  refine au0 X1 hx hZ hown (host := "") (Or.inl (z_w hw 35 rfl)) Via.refl e1 az3 (hb hby cl6) (fun T2 X2 e2 => ?_)
  refine ae0 X2 hx (hb hby cm6) rfl rfl ?_
  refine au0 X2 hx hZ hown (host := "") (Or.inl (z_w hw 45 rfl)) Via.refl e2 au2 (hb hby cn6) (fun T3 X3 e3 => ?_)
  refine az0 X3 hx (hb hby co6) (z := (1 : Int32)) rfl ?_
  refine bt1 X3 hx (hb hby cp6) (z := (1 : Int32)) rfl ?_
  refine ay2 X3 hx hZ e3 ar3 (j := (1 : Int32)) (v := (.ref L1)) (i := 1) (by decide) hl (hb hby cq6) ?_
  obtain ⟨T4, X4, e4, st4⟩ := bl0 X3 hx hZ hown (z_w hw 74 rfl) Via.refl e3 bl1 (g := (mkF m 28 #[.val (.ref o0)] [(.ref L1)])) rfl rfl (hb hby cr6)
  refine an1 (fun _ => st4 _) ?_
  show aa0 p e below P (T4.setTop (mkF m 31 #[.val (.ref o0)] [(.int ay9)]))
  exact ao7 X4 hx hlk hP hrt (hb hby cs6) (by decide) (by decide) ⟨rfl, N0, e4⟩
theorem el1 (m : MethodId) (o0 : Addr) : entryFrame m #[(.ref o0)] 1 = mkF m 0 #[.val (.ref o0)] [] := by first | (simp [entryFrame, mkF, argsToLocals, Value.category]; done) | rfl
set_option maxRecDepth 65536 in
set_option maxHeartbeats 40000000 in
theorem cl0 (l : Launch) (Z : State) (a0 : Array Value) (hw : ∀ d ∈ tables_1, d.before a0 Z = true) (ws : List Jvm.Cond) (o0 : Addr) (L0 : Addr) (Lv : List Value) (as0 : Addr) (ch4 : Int32) (h0 : Heap) (n0 : Nat) (Z0 : n0 ≤ h0.size) (az3 : Fld Z h0 o0 z_s1 "levels" z_s4 (.ref as0)) (au2 : Fld Z h0 o0 z_s1 "depth" "I" (.int (1 : Int32))) (ds7 : Fld Z h0 L0 z_s3 "index" "I" (.int ch4)) (ar3 : (ac2 z_s3) Z h0 as0 Lv) (hl : Lv[0]? = some (.ref L0)) :
    ab3 l Z (⟨z_s1, "index", "()I"⟩ : MethodName) prog_126_method_5_code 1 (some .int) ws ({ frames := 0, cells := 0, slots := 0, locals := 0 } : Room) #[(.ref o0)] h0 (fun (v : Option Value) (h : Heap) (L : List Loc) => v = some (.int ch4) ∧ Fr n0 L ∧ h = h0) := by
  refine al3 (plainFor_of_name ar1) ?_
  intro p e s m below meth c s₁ P hx hby hml hrt hlk hown hnm hZ X0 e0 hP
  have N0 := Fr.nil n0
  have K0 := Keep.refl h0 []
  have hml' : c.maxLocals = 1 := hml
  refine ac4 (el1 m o0) ?_
  show aa0 p e below P (s₁.setTop (mkF m 0 #[.val (.ref o0)] []))
  refine ae0 X0 hx (hb hby ck8) rfl rfl ?_
  refine au0 X0 hx hZ hown (host := "") (Or.inl (z_w hw 45 rfl)) Via.refl e0 au2 (hb hby cl8) (fun T1 X1 e1 => ?_)
  refine al7 X1 hx (pc' := 17) (hb hby cm8) ((if0 _ _).trans (feq (by decide : ¬ ((1 : Int32) = (0 : Int32)))).2) ?_
  refine ae0 X1 hx (hb hby ck6) rfl rfl ?_
  refine au0 X1 hx hZ hown (host := "") (Or.inl (z_w hw 35 rfl)) Via.refl e1 az3 (hb hby cl6) (fun T2 X2 e2 => ?_)
  refine ae0 X2 hx (hb hby cm6) rfl rfl ?_
  refine au0 X2 hx hZ hown (host := "") (Or.inl (z_w hw 45 rfl)) Via.refl e2 au2 (hb hby cn6) (fun T3 X3 e3 => ?_)
  refine az0 X3 hx (hb hby co6) (z := (1 : Int32)) rfl ?_
  refine bt1 X3 hx (hb hby cp6) (z := (0 : Int32)) rfl ?_
  refine ay2 X3 hx hZ e3 ar3 (j := (0 : Int32)) (v := (.ref L0)) (i := 0) (by decide) hl (hb hby cq6) ?_
  obtain ⟨T4, X4, e4, st4⟩ := bl0 X3 hx hZ hown (z_w hw 74 rfl) Via.refl e3 ds7 (g := (mkF m 28 #[.val (.ref o0)] [(.ref L0)])) rfl rfl (hb hby cr6)
  refine an1 (fun _ => st4 _) ?_
  show aa0 p e below P (T4.setTop (mkF m 31 #[.val (.ref o0)] [(.int ch4)]))
  exact ao7 X4 hx hlk hP hrt (hb hby cs6) (by decide) (by decide) ⟨rfl, N0, e4⟩
theorem aj3 : parseMethodDescriptor "(C)Ljava/lang/String;" = some ⟨[.char], some (.object z_s2)⟩ := by decide +kernel
theorem ai1 : parseMethodDescriptor z_s7 = some ⟨[(.object z_s2)], none⟩ := by decide +kernel
theorem ew4 (m : MethodId) (p0 : Int32) (p1 : Int32) (p2 : Int32) (p3 : Int32) (p4 : Int32) : entryFrame m #[(.int p0), (.int p1), (.int p2), (.int p3), (.int p4)] maxLocals = mkF m 0 #[.val (.int p0), .val (.int p1), .val (.int p2), .val (.int p3), .val (.int p4), .unset, .unset, .unset, .unset, .unset, .unset, .unset, .unset, .unset, .unset, .unset, .unset, .unset] [] := by first | (simp [entryFrame, mkF, argsToLocals, Value.category, maxLocals]; done) | rfl
theorem ay8 : plainName "com/example/tallywire/tallywire/rules/ElementPathIndexPinLaw" = true := by first | (simp [plainName, overriddenIn]; done) | decide +kernel
set_option maxRecDepth 65536 in
set_option maxHeartbeats 40000000 in
theorem ec5 (l : Launch) (Z : State) (a0 : Array Value) (hw : ∀ d ∈ tables_1, d.before a0 Z = true) (ws : List Jvm.Cond) (p0 : Int32) (p1 : Int32) (p2 : Int32) (p3 : Int32) (p4 : Int32) (ab0 : Int32) (h0 : Heap) (n0 : Nat) (Z0 : n0 ≤ h0.size) (ar0 : Sta Z h0 z_s2 "COMPACT_STRINGS" "Z" (.int ab0)) (hnz : ¬ (ab0 = (0 : Int32))) :
    ab3 l Z x code maxLocals ret ws room_1 #[(.int p0), (.int p1), (.int p2), (.int p3), (.int p4)] h0 (fun (v : Option Value) (h : Heap) (L : List Loc) => v = some (.int 1) ∧ Fr n0 L) := by
  refine al3 (plainFor_of_name ay8) ?_
  intro p e s m below meth c s₁ P hx hby hml hrt hlk hown hnm hZ X0 e0 hP
  have N0 := Fr.nil n0
  have K0 := Keep.refl h0 []
  have hml' : c.maxLocals = 18 := hml
  refine ac4 (ew4 m p0 p1 p2 p3 p4) ?_
  show aa0 p e below P (s₁.setTop (mkF m 0 #[.val (.int p0), .val (.int p1), .val (.int p2), .val (.int p3), .val (.int p4), .unset, .unset, .unset, .unset, .unset, .unset, .unset, .unset, .unset, .unset, .unset, .unset, .unset] []))
  refine ae1 X0 hx (hb hby at_0) rfl ?_
  refine be8 X0 hx (hb hby at_1) (z := (255 : Int32)) rfl ?_
  refine az7 X0 hx (hb hby at_4) (z := (p0 &&& (255 : Int32))) rfl ?_
  refine dr0 X0 hx (hb hby at_5) (z := ((p0 &&& (255 : Int32)).toUInt32.toUInt16.toUInt32.toInt32)) rfl ?_
  obtain ⟨cr, e_cr⟩ : ∃ z : Int32, z = ((p0 &&& (255 : Int32)).toUInt32.toUInt16.toUInt32.toInt32) := ⟨_, rfl⟩
  rw [← e_cr]
  show aa0 p e below P (s₁.setTop (mkF m 6 #[.val (.int p0), .val (.int p1), .val (.int p2), .val (.int p3), .val (.int p4), .unset, .unset, .unset, .unset, .unset, .unset, .unset, .unset, .unset, .unset, .unset, .unset, .unset] [(.int cr)]))
  refine as4 X0 hx (hb hby at_6) (l' := #[.val (.int p0), .val (.int p1), .val (.int p2), .val (.int p3), .val (.int p4), .val (.int cr), .unset, .unset, .unset, .unset, .unset, .unset, .unset, .unset, .unset, .unset, .unset, .unset]) rfl ?_
  refine ae1 X0 hx (hb hby at_8) rfl ?_
  refine be8 X0 hx (hb hby at_9) (z := (255 : Int32)) rfl ?_
  refine az7 X0 hx (hb hby at_12) (z := (p1 &&& (255 : Int32))) rfl ?_
  refine dr0 X0 hx (hb hby at_13) (z := ((p1 &&& (255 : Int32)).toUInt32.toUInt16.toUInt32.toInt32)) rfl ?_
  obtain ⟨ca, e_ca⟩ : ∃ z : Int32, z = ((p1 &&& (255 : Int32)).toUInt32.toUInt16.toUInt32.toInt32) := ⟨_, rfl⟩
  rw [← e_ca]
  show aa0 p e below P (s₁.setTop (mkF m 14 #[.val (.int p0), .val (.int p1), .val (.int p2), .val (.int p3), .val (.int p4), .val (.int cr), .unset, .unset, .unset, .unset, .unset, .unset, .unset, .unset, .unset, .unset, .unset, .unset] [(.int ca)]))
  refine as4 X0 hx (hb hby at_14) (l' := #[.val (.int p0), .val (.int p1), .val (.int p2), .val (.int p3), .val (.int p4), .val (.int cr), .val (.int ca), .unset, .unset, .unset, .unset, .unset, .unset, .unset, .unset, .unset, .unset, .unset]) rfl ?_
  refine ay1 X0 hx (hb hby at_16) rfl ?_
  refine az0 X0 hx (hb hby at_18) (z := (2 : Int32)) rfl ?_
  refine az7 X0 hx (hb hby at_19) (z := (p4 &&& (2 : Int32))) rfl ?_
  have J3 : ∀ v2 : Int32, v2 = (if (p4 &&& (2 : Int32)) = (0 : Int32) then ((p2 &&& (255 : Int32)).toUInt32.toUInt16.toUInt32.toInt32) else ca) → aa0 p e below P (s₁.setTop (mkF m 34 #[.val (.int p0), .val (.int p1), .val (.int p2), .val (.int p3), .val (.int p4), .val (.int cr), .val (.int ca), .unset, .unset, .unset, .unset, .unset, .unset, .unset, .unset, .unset, .unset, .unset] [(.int v2)])) := by
    intro v2 e_v2
    refine as4 X0 hx (hb hby at_34) (l' := #[.val (.int p0), .val (.int p1), .val (.int p2), .val (.int p3), .val (.int p4), .val (.int cr), .val (.int ca), .val (.int v2), .unset, .unset, .unset, .unset, .unset, .unset, .unset, .unset, .unset, .unset]) rfl ?_
    refine ay1 X0 hx (hb hby at_36) rfl ?_
    refine az0 X0 hx (hb hby at_38) (z := (2 : Int32)) rfl ?_
    refine dt4 X0 hx (hb hby at_39) (z := ((p4.toUInt32 >>> ((2 : Int32) &&& 31).toUInt32).toInt32)) rfl ?_
    refine az0 X0 hx (hb hby at_40) (z := (3 : Int32)) rfl ?_
    refine az7 X0 hx (hb hby at_41) (z := (((p4.toUInt32 >>> ((2 : Int32) &&& 31).toUInt32).toInt32) &&& (3 : Int32))) rfl ?_
    refine as4 X0 hx (hb hby at_42) (l' := #[.val (.int p0), .val (.int p1), .val (.int p2), .val (.int p3), .val (.int p4), .val (.int cr), .val (.int ca), .val (.int v2), .val (.int (((p4.toUInt32 >>> ((2 : Int32) &&& 31).toUInt32).toInt32) &&& (3 : Int32))), .unset, .unset, .unset, .unset, .unset, .unset, .unset, .unset, .unset]) rfl ?_
    refine ay1 X0 hx (hb hby at_44) rfl ?_
    have J7 : ∀ v6 : Int32, v6 = (if (((p4.toUInt32 >>> ((2 : Int32) &&& 31).toUInt32).toInt32) &&& (3 : Int32)) = (0 : Int32) then ca else (if (((p4.toUInt32 >>> ((2 : Int32) &&& 31).toUInt32).toInt32) &&& (3 : Int32)) = (1 : Int32) then v2 else ((p3 &&& (255 : Int32)).toUInt32.toUInt16.toUInt32.toInt32))) → aa0 p e below P (s₁.setTop (mkF m 71 #[.val (.int p0), .val (.int p1), .val (.int p2), .val (.int p3), .val (.int p4), .val (.int cr), .val (.int ca), .val (.int v2), .val (.int (((p4.toUInt32 >>> ((2 : Int32) &&& 31).toUInt32).toInt32) &&& (3 : Int32))), .unset, .unset, .unset, .unset, .unset, .unset, .unset, .unset, .unset] [(.int v6)])) := by
      intro v6 e_v6
      refine as4 X0 hx (hb hby at_71) (l' := #[.val (.int p0), .val (.int p1), .val (.int p2), .val (.int p3), .val (.int p4), .val (.int cr), .val (.int ca), .val (.int v2), .val (.int (((p4.toUInt32 >>> ((2 : Int32) &&& 31).toUInt32).toInt32) &&& (3 : Int32))), .val (.int v6), .unset, .unset, .unset, .unset, .unset, .unset, .unset, .unset]) rfl ?_
      have Ha : bu0 ca := by rw [e_ca]; exact cn5 _
      have Hr : bu0 cr := by rw [e_cr]; exact cn5 _
      have Hb : bu0 v2 := by rw [e_v2]; split <;> first | exact Ha | exact cn5 _
      have Hc : bu0 v6 := by rw [e_v6]; (repeat' split) <;> first | exact Ha | exact Hb | exact cn5 _
      refine ay1 X0 hx (hb hby at_73) rfl ?_
      refine as5 X0 hx hZ (y := (⟨z_s2, "valueOf", "(C)Ljava/lang/String;"⟩ : MethodName)) hown (z_w hw 0 rfl) (z_w hw 1 rfl) (z_w hw 2 rfl) (z_w hw 3 rfl) (bd5 l Z a0 hw [] ca ab0 h0 n0 (Nat.le_trans Z0 K0.1) ar0 hnz (bp3 Ha)) 0 e0 hml' (argsL := [(.int ca)]) (rest := []) (lenOf aj3 rfl) (hb hby at_75) (fun r8 T8 L8 X8 hQ8 => ?_)
      obtain ⟨b3_8, b1_4_8, rfl, Nq8, Kq8, ey3, cm0, dt7, ed6, am7, f0_8, f1_8, f2_8, f3_8, f4_8, f5_8⟩ := hQ8
      have N8 := Fr.app N0 Nq8
      have cj2 := Nat.le_trans K0.1 ey3
      have ex6 := Nat.le_trans K0.1 dt7
      have K8 := Keep.trans K0 Kq8 all0
      show aa0 p e below P (T8.setTop (mkF m 78 #[.val (.int p0), .val (.int p1), .val (.int p2), .val (.int p3), .val (.int p4), .val (.int cr), .val (.int ca), .val (.int v2), .val (.int (((p4.toUInt32 >>> ((2 : Int32) &&& 31).toUInt32).toInt32) &&& (3 : Int32))), .val (.int v6), .unset, .unset, .unset, .unset, .unset, .unset, .unset, .unset] [(.ref b3_8)]))
      refine ao6 X8 hx (hb hby at_78) rfl (l' := #[.val (.int p0), .val (.int p1), .val (.int p2), .val (.int p3), .val (.int p4), .val (.int cr), .val (.int ca), .val (.int v2), .val (.int (((p4.toUInt32 >>> ((2 : Int32) &&& 31).toUInt32).toInt32) &&& (3 : Int32))), .val (.int v6), .val (.ref b3_8), .unset, .unset, .unset, .unset, .unset, .unset, .unset]) rfl ?_
      have Jn9 : aa0 p e below P (T8.setTop (mkF m 99 #[.val (.int p0), .val (.int p1), .val (.int p2), .val (.int p3), .val (.int p4), .val (.int cr), .val (.int ca), .val (.int v2), .val (.int (((p4.toUInt32 >>> ((2 : Int32) &&& 31).toUInt32).toInt32) &&& (3 : Int32))), .val (.int v6), .val (.ref b3_8), .unset, .unset, .unset, .unset, .unset, .unset, .unset] [])) := by
        refine ay1 X8 hx (hb hby at_99) rfl ?_
        have G11 := (ad2 ar0 Kq8 all0)
        refine as5 X8 hx hZ (y := (⟨z_s2, "valueOf", "(C)Ljava/lang/String;"⟩ : MethodName)) hown (z_w hw 0 rfl) (z_w hw 1 rfl) (z_w hw 2 rfl) (z_w hw 3 rfl) (bd5 l Z a0 hw [] v2 ab0 T8.heap n0 (Nat.le_trans Z0 K8.1) G11 hnz (bp3 Hb)) 0 rfl hml' (argsL := [(.int v2)]) (rest := []) (lenOf aj3 rfl) (hb hby at_101) (fun r10 T10 L10 X10 hQ10 => ?_)
        obtain ⟨b3_10, b1_4_10, rfl, Nq10, Kq10, c5, ca5, ck3, eo5, bv4, f0_10, f1_10, f2_10, f3_10, f4_10, f5_10⟩ := hQ10
        have N10 := Fr.app N8 Nq10
        have ne12 := z_nc f5_8.lt c5
        have ne13 := z_nc f5_8.lt ck3
        have ne14 := z_nc f0_8.lt c5
        have ne15 := z_nc f0_8.lt ck3
        have ck7 := Nat.le_trans K8.1 c5
        have ee6 := Nat.le_trans K8.1 ck3
        have K10 := Keep.trans K8 Kq10 all0
        show aa0 p e below P (T10.setTop (mkF m 104 #[.val (.int p0), .val (.int p1), .val (.int p2), .val (.int p3), .val (.int p4), .val (.int cr), .val (.int ca), .val (.int v2), .val (.int (((p4.toUInt32 >>> ((2 : Int32) &&& 31).toUInt32).toInt32) &&& (3 : Int32))), .val (.int v6), .val (.ref b3_8), .unset, .unset, .unset, .unset, .unset, .unset, .unset] [(.ref b3_10)]))
        refine ao6 X10 hx (hb hby at_104) rfl (l' := #[.val (.int p0), .val (.int p1), .val (.int p2), .val (.int p3), .val (.int p4), .val (.int cr), .val (.int ca), .val (.int v2), .val (.int (((p4.toUInt32 >>> ((2 : Int32) &&& 31).toUInt32).toInt32) &&& (3 : Int32))), .val (.int v6), .val (.ref b3_8), .val (.ref b3_10), .unset, .unset, .unset, .unset, .unset, .unset]) rfl ?_
        have Jn16 : aa0 p e below P (T10.setTop (mkF m 150 #[.val (.int p0), .val (.int p1), .val (.int p2), .val (.int p3), .val (.int p4), .val (.int cr), .val (.int ca), .val (.int v2), .val (.int (((p4.toUInt32 >>> ((2 : Int32) &&& 31).toUInt32).toInt32) &&& (3 : Int32))), .val (.int v6), .val (.ref b3_8), .val (.ref b3_10), .unset, .unset, .unset, .unset, .unset, .unset] [])) := by
          refine ay1 X10 hx (hb hby at_150) rfl ?_
          have G18 := (ad2 G11 Kq10 all0)
          refine as5 X10 hx hZ (y := (⟨z_s2, "valueOf", "(C)Ljava/lang/String;"⟩ : MethodName)) hown (z_w hw 0 rfl) (z_w hw 1 rfl) (z_w hw 2 rfl) (z_w hw 3 rfl) (bd5 l Z a0 hw [] v6 ab0 T10.heap n0 (Nat.le_trans Z0 K10.1) G18 hnz (bp3 Hc)) 0 rfl hml' (argsL := [(.int v6)]) (rest := []) (lenOf aj3 rfl) (hb hby at_152) (fun r17 T17 L17 X17 hQ17 => ?_)
          obtain ⟨b3_17, b1_4_17, rfl, Nq17, Kq17, cj1, em1, ba8, ep5, cl7, f0_17, f1_17, f2_17, f3_17, f4_17, f5_17⟩ := hQ17
          have N17 := Fr.app N10 Nq17
          have ne19 := z_nc f5_10.lt cj1
          have ne20 := z_nc f5_10.lt ba8
          have G21 := (f5_8.keep Kq10 nin0)
          have ne22 := z_nc G21.lt cj1
          have ne23 := z_nc G21.lt ba8
          have ne24 := z_nc f0_10.lt cj1
          have ne25 := z_nc f0_10.lt ba8
          have G26 := (f0_8.keep Kq10)
          have ne27 := z_nc G26.lt cj1
          have ne28 := z_nc G26.lt ba8
          have ez3 := Nat.le_trans K10.1 cj1
          have ef6 := Nat.le_trans K10.1 ba8
          have K17 := Keep.trans K10 Kq17 all0
          show aa0 p e below P (T17.setTop (mkF m 155 #[.val (.int p0), .val (.int p1), .val (.int p2), .val (.int p3), .val (.int p4), .val (.int cr), .val (.int ca), .val (.int v2), .val (.int (((p4.toUInt32 >>> ((2 : Int32) &&& 31).toUInt32).toInt32) &&& (3 : Int32))), .val (.int v6), .val (.ref b3_8), .val (.ref b3_10), .unset, .unset, .unset, .unset, .unset, .unset] [(.ref b3_17)]))
          refine ao6 X17 hx (hb hby at_155) rfl (l' := #[.val (.int p0), .val (.int p1), .val (.int p2), .val (.int p3), .val (.int p4), .val (.int cr), .val (.int ca), .val (.int v2), .val (.int (((p4.toUInt32 >>> ((2 : Int32) &&& 31).toUInt32).toInt32) &&& (3 : Int32))), .val (.int v6), .val (.ref b3_8), .val (.ref b3_10), .val (.ref b3_17), .unset, .unset, .unset, .unset, .unset]) rfl ?_
          refine ay1 X17 hx (hb hby at_157) rfl ?_
          have G30 := (ad2 G18 Kq17 all0)
          refine as5 X17 hx hZ (y := (⟨z_s2, "valueOf", "(C)Ljava/lang/String;"⟩ : MethodName)) hown (z_w hw 0 rfl) (z_w hw 1 rfl) (z_w hw 2 rfl) (z_w hw 3 rfl) (bd5 l Z a0 hw [] cr ab0 T17.heap n0 (Nat.le_trans Z0 K17.1) G30 hnz (bp3 Hr)) 0 rfl hml' (argsL := [(.int cr)]) (rest := []) (lenOf aj3 rfl) (hb hby at_159) (fun r29 T29 L29 X29 hQ29 => ?_)
          obtain ⟨b3_29, b1_4_29, rfl, Nq29, Kq29, bu6, ey6, bq3, er5, ea4, f0_29, f1_29, f2_29, f3_29, f4_29, f5_29⟩ := hQ29
          have N29 := Fr.app N17 Nq29
          have G31 := (f5_10.keep Kq17 nin0)
          have ne32 := z_nc G31.lt bu6
          have ne33 := z_nc G31.lt bq3
          have ne34 := z_nc f5_17.lt bu6
          have ne35 := z_nc f5_17.lt bq3
          have G36 := (G21.keep Kq17 nin0)
          have ne37 := z_nc G36.lt bu6
          have ne38 := z_nc G36.lt bq3
          have G39 := (f0_10.keep Kq17)
          have ne40 := z_nc G39.lt bu6
          have ne41 := z_nc G39.lt bq3
          have ne42 := z_nc f0_17.lt bu6
          have ne43 := z_nc f0_17.lt bq3
          have G44 := (G26.keep Kq17)
          have ne45 := z_nc G44.lt bu6
          have ne46 := z_nc G44.lt bq3
          have eo7 := Nat.le_trans K17.1 bu6
          have eg6 := Nat.le_trans K17.1 bq3
          have K29 := Keep.trans K17 Kq29 all0
          show aa0 p e below P (T29.setTop (mkF m 162 #[.val (.int p0), .val (.int p1), .val (.int p2), .val (.int p3), .val (.int p4), .val (.int cr), .val (.int ca), .val (.int v2), .val (.int (((p4.toUInt32 >>> ((2 : Int32) &&& 31).toUInt32).toInt32) &&& (3 : Int32))), .val (.int v6), .val (.ref b3_8), .val (.ref b3_10), .val (.ref b3_17), .unset, .unset, .unset, .unset, .unset] [(.ref b3_29)]))
          refine ao6 X29 hx (hb hby at_162) rfl (l' := #[.val (.int p0), .val (.int p1), .val (.int p2), .val (.int p3), .val (.int p4), .val (.int cr), .val (.int ca), .val (.int v2), .val (.int (((p4.toUInt32 >>> ((2 : Int32) &&& 31).toUInt32).toInt32) &&& (3 : Int32))), .val (.int v6), .val (.ref b3_8), .val (.ref b3_10), .val (.ref b3_17), .val (.ref b3_29), .unset, .unset, .unset, .unset]) rfl ?_
          obtain ⟨T47, h47, X47, e47, E47, A47, D47, -, st47⟩ := newO X29 hx hZ hown (z_w hw 26 rfl) (z_w hw 27 rfl) (z_w hw 28 rfl) rfl (g := (mkF m 164 #[.val (.int p0), .val (.int p1), .val (.int p2), .val (.int p3), .val (.int p4), .val (.int cr), .val (.int ca), .val (.int v2), .val (.int (((p4.toUInt32 >>> ((2 : Int32) &&& 31).toUInt32).toInt32) &&& (3 : Int32))), .val (.int v6), .val (.ref b3_8), .val (.ref b3_10), .val (.ref b3_17), .val (.ref b3_29), .unset, .unset, .unset, .unset] [])) rfl (hb hby at_164) (by decide) (by decide)
          obtain ⟨b47, g47⟩ : ∃ z, z = T29.heap.size := ⟨_, rfl⟩
          rw [← g47] at A47 D47 st47
          have G49 := (G31.keep Kq29 nin0)
          have ne48 := z_nb G49.lt g47
          have G51 := (f5_17.keep Kq29 nin0)
          have ne50 := z_nb G51.lt g47
          have ne52 := z_nb f5_29.lt g47
          have G54 := (G36.keep Kq29 nin0)
          have ne53 := z_nb G54.lt g47
          have G56 := (G39.keep Kq29)
          have ne55 := z_nb G56.lt g47
          have G58 := (f0_17.keep Kq29)
          have ne57 := z_nb G58.lt g47
          have ne59 := z_nb f0_29.lt g47
          have G61 := (G44.keep Kq29)
          have ne60 := z_nb G61.lt g47
          have bh8 : n0 ≤ b47 := Nat.le_trans (Nat.le_trans Z0 K29.1) (Nat.le_of_eq g47.symm)
          have ck1 : h0.size ≤ b47 := Nat.le_trans K29.1 (Nat.le_of_eq g47.symm)
          have K47 := Keep.ext K29 E47
          have de1 : Fld Z h47 b47 z_s1 "levels" z_s4 .null := D47 (Or.inl (z_w hw 36 rfl)) (ty := (.array (.object z_s3))) (by decide)
          have du7 : Fld Z h47 b47 z_s1 "path" "[C" .null := D47 (Or.inl (z_w hw 39 rfl)) (ty := (.array .char)) (by decide)
          have dm4 : Fld Z h47 b47 z_s1 "depth" "I" (.int (0 : Int32)) := D47 (Or.inl (z_w hw 46 rfl)) (ty := .int) (by decide)
          have dj0 : Fld Z h47 b47 z_s1 "written" "I" (.int (0 : Int32)) := D47 (Or.inl (z_w hw 87 rfl)) (ty := .int) (by decide)
          refine an1 (fun _ => st47 _) ?_
          show aa0 p e below P (T47.setTop (mkF m 167 #[.val (.int p0), .val (.int p1), .val (.int p2), .val (.int p3), .val (.int p4), .val (.int cr), .val (.int ca), .val (.int v2), .val (.int (((p4.toUInt32 >>> ((2 : Int32) &&& 31).toUInt32).toInt32) &&& (3 : Int32))), .val (.int v6), .val (.ref b3_8), .val (.ref b3_10), .val (.ref b3_17), .val (.ref b3_29), .unset, .unset, .unset, .unset] [(.ref b47)]))
          refine bi0 X47 hx (hb hby at_167) rfl ?_
          refine cb0 X47 hx hZ (y := (⟨z_s1, "<init>", "()V"⟩ : MethodName)) hown (z_w hw 29 rfl) (z_w hw 30 rfl) (z_w hw 28 rfl) (z_w hw 31 rfl) (ce2 l Z a0 hw [] b47  h47 n0 (Nat.le_trans Z0 K47.1) A47 de1 du7 dm4 dj0 bh8) 1 e47 hml' (a := b47) (argsL := []) (rest := [(.ref b47)]) (lenOf as2 rfl) (hb hby at_168) (fun r62 T62 L62 X62 hQ62 => ?_)
          obtain ⟨b2_62, rfl, Nq62, Kq62, br1, cz9, f0_62, f1_62, f2_62, f3_62, f4_62⟩ := hQ62
          have N62 := Fr.app N29 Nq62
          have G63 := (G49.ext E47)
          have ne64 := z_nc G63.lt br1
          have G65 := (G51.ext E47)
          have ne66 := z_nc G65.lt br1
          have G67 := (f5_29.ext E47)
          have ne68 := z_nc G67.lt br1
          have G69 := (G54.ext E47)
          have ne70 := z_nc G69.lt br1
          have G71 := (G56.ext E47)
          have ne72 := z_nc G71.lt br1
          have G73 := (G58.ext E47)
          have ne74 := z_nc G73.lt br1
          have G75 := (f0_29.ext E47)
          have ne76 := z_nc G75.lt br1
          have G77 := (G61.ext E47)
          have ne78 := z_nc G77.lt br1
          have ne79 := z_nc A47.lt br1
          have df1 := Nat.le_trans K47.1 br1
          have K62 := Keep.trans K47 Kq62 (allS (Or.inr ck1) all0)
          show aa0 p e below P (T62.setTop (mkF m 171 #[.val (.int p0), .val (.int p1), .val (.int p2), .val (.int p3), .val (.int p4), .val (.int cr), .val (.int ca), .val (.int v2), .val (.int (((p4.toUInt32 >>> ((2 : Int32) &&& 31).toUInt32).toInt32) &&& (3 : Int32))), .val (.int v6), .val (.ref b3_8), .val (.ref b3_10), .val (.ref b3_17), .val (.ref b3_29), .unset, .unset, .unset, .unset] [(.ref b47)]))
          refine ao6 X62 hx (hb hby at_171) rfl (l' := #[.val (.int p0), .val (.int p1), .val (.int p2), .val (.int p3), .val (.int p4), .val (.int cr), .val (.int ca), .val (.int v2), .val (.int (((p4.toUInt32 >>> ((2 : Int32) &&& 31).toUInt32).toInt32) &&& (3 : Int32))), .val (.int v6), .val (.ref b3_8), .val (.ref b3_10), .val (.ref b3_17), .val (.ref b3_29), .val (.ref b47), .unset, .unset, .unset]) rfl ?_
          refine aw1 X62 hx (hb hby at_173) rfl rfl ?_
          refine aw1 X62 hx (hb hby at_175) rfl rfl ?_
          refine az1 X62 hx hZ (y := (⟨z_s1, "enter", z_s7⟩ : MethodName)) (z := (⟨z_s1, "enter", z_s7⟩ : MethodName)) hown (z_w hw 40 rfl) (z_w hw 41 rfl) (notFace_of_selects (args := #[]) (mvT hZ (z_w hw 43 rfl))) (z_w hw 43 rfl) (z_w hw 42 rfl) (z_w hw 28 rfl) (z_w hw 44 rfl) f0_62 (cg2 l Z a0 hw [] b47 b3_29 b2_62 T62.heap n0 (Nat.le_trans Z0 K62.1) f0_62 f1_62 f2_62 f3_62 f4_62 bh8 cz9 ne79) 0 rfl hml' (argsL := [(.ref b3_29)]) (rest := []) (lenOf ai1 rfl) (hb hby at_177) (fun r80 T80 L80 X80 hQ80 => ?_)
          obtain ⟨b6_80, b2_9_80, b2_4_9_80, b7_4_9_80, b15_4_9_80, rfl, Nq80, Kq80, bz0, ez6, ah9, cl3, ai7, co1, aj7, cp1, au6, cn0, af8, a7, bw4, aa7, bx4, br3, aq6, bp4, bg2, bh2, f0_80, f1_80, f2_80, f3_80, f4_80, f5_80, f6_80, f7_80, f8_80, f9_80, f10_80, f11_80, f12_80, f13_80, f14_80, f15_80, f16_80, f17_80, f18_80⟩ := hQ80
          have N80 := Fr.app N62 Nq80
          have G81 := (G63.keep Kq62 (ninS ne48 nin0))
          have ne82 := z_nc G81.lt bz0
          have ne83 := z_nc G81.lt ah9
          have ne84 := z_nc G81.lt ai7
          have ne85 := z_nc G81.lt aj7
          have ne86 := z_nc G81.lt au6
          have G87 := (G65.keep Kq62 (ninS ne50 nin0))
          have ne88 := z_nc G87.lt bz0
          have ne89 := z_nc G87.lt ah9
          have ne90 := z_nc G87.lt ai7
          have ne91 := z_nc G87.lt aj7
          have ne92 := z_nc G87.lt au6
          have G93 := (G67.keep Kq62 (ninS ne52 nin0))
          have ne94 := z_nc G93.lt bz0
          have ne95 := z_nc G93.lt ah9
          have ne96 := z_nc G93.lt ai7
          have ne97 := z_nc G93.lt aj7
          have ne98 := z_nc G93.lt au6
          have G99 := (G69.keep Kq62 (ninS ne53 nin0))
          have ne100 := z_nc G99.lt bz0
          have ne101 := z_nc G99.lt ah9
          have ne102 := z_nc G99.lt ai7
          have ne103 := z_nc G99.lt aj7
          have ne104 := z_nc G99.lt au6
          have ne105 := z_nc f4_62.lt bz0
          have ne106 := z_nc f4_62.lt ah9
          have ne107 := z_nc f4_62.lt ai7
          have ne108 := z_nc f4_62.lt aj7
          have ne109 := z_nc f4_62.lt au6
          have G110 := (G71.keep Kq62)
          have ne111 := z_nc G110.lt bz0
          have ne112 := z_nc G110.lt ah9
          have ne113 := z_nc G110.lt ai7
          have ne114 := z_nc G110.lt aj7
          have ne115 := z_nc G110.lt au6
          have G116 := (G73.keep Kq62)
          have ne117 := z_nc G116.lt bz0
          have ne118 := z_nc G116.lt ah9
          have ne119 := z_nc G116.lt ai7
          have ne120 := z_nc G116.lt aj7
          have ne121 := z_nc G116.lt au6
          have G122 := (G75.keep Kq62)
          have ne123 := z_nc G122.lt bz0
          have ne124 := z_nc G122.lt ah9
          have ne125 := z_nc G122.lt ai7
          have ne126 := z_nc G122.lt aj7
          have ne127 := z_nc G122.lt au6
          have G128 := (G77.keep Kq62)
          have ne129 := z_nc G128.lt bz0
          have ne130 := z_nc G128.lt ah9
          have ne131 := z_nc G128.lt ai7
          have ne132 := z_nc G128.lt aj7
          have ne133 := z_nc G128.lt au6
          have ne134 := z_nc f0_62.lt bz0
          have ne135 := z_nc f0_62.lt ah9
          have ne136 := z_nc f0_62.lt ai7
          have ne137 := z_nc f0_62.lt aj7
          have ne138 := z_nc f0_62.lt au6
          have ep7 := Nat.le_trans K62.1 bz0
          have ci4 := Nat.le_trans K62.1 ah9
          have cq2 := Nat.le_trans K62.1 ai7
          have cr2 := Nat.le_trans K62.1 aj7
          have cq1 := Nat.le_trans K62.1 au6
          have K80 := Keep.trans K62 Kq80 (allS (Or.inr ck1) (allS (Or.inr df1) all0))
          show aa0 p e below P (T80.setTop (mkF m 180 #[.val (.int p0), .val (.int p1), .val (.int p2), .val (.int p3), .val (.int p4), .val (.int cr), .val (.int ca), .val (.int v2), .val (.int (((p4.toUInt32 >>> ((2 : Int32) &&& 31).toUInt32).toInt32) &&& (3 : Int32))), .val (.int v6), .val (.ref b3_8), .val (.ref b3_10), .val (.ref b3_17), .val (.ref b3_29), .val (.ref b47), .unset, .unset, .unset] []))
          refine aw1 X80 hx (hb hby at_180) rfl rfl ?_
          refine aw1 X80 hx (hb hby at_182) rfl rfl ?_
          have G140 := (G128.keep Kq80)
          have G141 := ((((((f1_8.keep Kq10 nin0).keep Kq17 nin0).keep Kq29 nin0).ext E47).keep Kq62 (ninS ne60 nin0)).keep Kq80 (ninS ne60 (ninS ne78 nin0)))
          have G142 := ((((((f2_8.keep Kq10 nin0).keep Kq17 nin0).keep Kq29 nin0).ext E47).keep Kq62 (ninS ne60 nin0)).keep Kq80 (ninS ne60 (ninS ne78 nin0)))
          have G143 := ((((((f3_8.keep Kq10 nin0).keep Kq17 nin0).keep Kq29 nin0).ext E47).keep Kq62 (ninS ne60 nin0)).keep Kq80 (ninS ne60 (ninS ne78 nin0)))
          have G144 := ((((((f4_8.keep Kq10 nin0).keep Kq17 nin0).keep Kq29 nin0).ext E47).keep Kq62 (ninS ne60 nin0)).keep Kq80 (ninS ne60 (ninS ne78 nin0)))
          have G145 := (ad2 (ad2 ((ad2 G30 Kq29 all0).ext E47) Kq62 (allS (aw3 A47) all0)) Kq80 (allS (aw3 f0_62) (allS (ak9 f4_62) all0)))
          have G146 := (G99.keep Kq80 (ninS ne53 (ninS ne70 nin0)))
          refine az1 X80 hx hZ (y := (⟨z_s1, "enter", z_s7⟩ : MethodName)) (z := (⟨z_s1, "enter", z_s7⟩ : MethodName)) hown (z_w hw 40 rfl) (z_w hw 41 rfl) (notFace_of_selects (args := #[]) (mvT hZ (z_w hw 43 rfl))) (z_w hw 43 rfl) (z_w hw 42 rfl) (z_w hw 28 rfl) (z_w hw 44 rfl) f0_80 (ch2 l Z a0 hw [] b47 b3_8 b6_80 ((List.replicate 16 Value.null).set 0 (.ref b6_80)) (nar .byte (ca.toInt8.toInt32)) (List.replicate 16 Value.null) (List.replicate 16 (0 : Int32)) (List.replicate 16 (0 : Int32)) (0 : Int32) b2_62 b2_9_80 b2_4_9_80 b7_4_9_80 b15_4_9_80 (0 : Int32) (0 : Int32) b1_4_8 ab0 T80.heap n0 (Nat.le_trans Z0 K80.1) f0_80 f5_80 f9_80 G140 f1_80 f2_80 f3_80 f6_80 f10_80 f11_80 f12_80 f13_80 f14_80 f15_80 G141 G142 G143 G144 G145 f4_80 f16_80 f17_80 f18_80 G146 bh8 cz9 cl3 co1 cp1 cn0 cm0 ne79 ne135 ne136 ne137 ne138 ne60.symm ne106 ne107 ne108 ne109 ne78.symm bw4 bx4 bp4 ne130.symm br3 bg2 ne131.symm bh2 ne132.symm ne133.symm ne134 ne53.symm ne105 ne70.symm af8.symm ne101.symm a7.symm ne102.symm aa7.symm ne103.symm aq6.symm ne104.symm ne129 am7 hnz (by simp only [ap3, ae3, aq3, List.length_set, List.length_replicate]) (by simp only [ap3, ae3, aq3, List.length_set, List.length_replicate]) (by simp only [ap3, ae3, aq3, List.length_set, List.length_replicate]) (Or.inl rfl) (ch0 _) rfl rfl (by rfl)) 0 rfl hml' (argsL := [(.ref b3_8)]) (rest := []) (lenOf ai1 rfl) (hb hby at_184) (fun r139 T139 L139 X139 hQ139 => ?_)
          obtain ⟨b13_139, b2_26_139, rfl, Nq139, Kq139, ac6, ct6, af5, cn4, bs9, f0_139, f1_139, f2_139, f3_139, f4_139, f5_139, f6_139, f7_139, f8_139, f9_139, f10_139, f11_139, f12_139, f13_139, f14_139, f15_139, f16_139, f17_139, f18_139, f19_139, f20_139, f21_139, f22_139, f23_139, f24_139, f25_139, f26_139⟩ := hQ139
          have N139 := Fr.app N80 Nq139
          have ne147 := z_nc f18_80.lt ac6
          have ne148 := z_nc f18_80.lt af5
          have G149 := (G81.keep Kq80 (ninS ne48 (ninS ne64 nin0)))
          have ne150 := z_nc G149.lt ac6
          have ne151 := z_nc G149.lt af5
          have G152 := (G87.keep Kq80 (ninS ne50 (ninS ne66 nin0)))
          have ne153 := z_nc G152.lt ac6
          have ne154 := z_nc G152.lt af5
          have G155 := (G93.keep Kq80 (ninS ne52 (ninS ne68 nin0)))
          have ne156 := z_nc G155.lt ac6
          have ne157 := z_nc G155.lt af5
          have ne158 := z_nc G146.lt ac6
          have ne159 := z_nc G146.lt af5
          have ne160 := z_nc f16_80.lt ac6
          have ne161 := z_nc f16_80.lt af5
          have ne162 := z_nc f4_80.lt ac6
          have ne163 := z_nc f4_80.lt af5
          have ne164 := z_nc f9_80.lt ac6
          have ne165 := z_nc f9_80.lt af5
          have G166 := (G110.keep Kq80)
          have ne167 := z_nc G166.lt ac6
          have ne168 := z_nc G166.lt af5
          have G169 := (G116.keep Kq80)
          have ne170 := z_nc G169.lt ac6
          have ne171 := z_nc G169.lt af5
          have G172 := (G122.keep Kq80)
          have ne173 := z_nc G172.lt ac6
          have ne174 := z_nc G172.lt af5
          have ne175 := z_nc G140.lt ac6
          have ne176 := z_nc G140.lt af5
          have ne177 := z_nc f0_80.lt ac6
          have ne178 := z_nc f0_80.lt af5
          have ne179 := z_nc f5_80.lt ac6
          have ne180 := z_nc f5_80.lt af5
          have ne181 := z_nc f17_80.lt ac6
          have ne182 := z_nc f17_80.lt af5
          have cn8 := Nat.le_trans K80.1 ac6
          have cb5 := Nat.le_trans K80.1 af5
          have K139 := Keep.trans K80 Kq139 (allS (Or.inr ck1) (allS (Or.inr df1) (allS (Or.inr ci4) (allS (Or.inr cq2) (allS (Or.inr cr2) (allS (Or.inr cq1) (allS (Or.inr cj2) all0)))))))
          show aa0 p e below P (T139.setTop (mkF m 187 #[.val (.int p0), .val (.int p1), .val (.int p2), .val (.int p3), .val (.int p4), .val (.int cr), .val (.int ca), .val (.int v2), .val (.int (((p4.toUInt32 >>> ((2 : Int32) &&& 31).toUInt32).toInt32) &&& (3 : Int32))), .val (.int v6), .val (.ref b3_8), .val (.ref b3_10), .val (.ref b3_17), .val (.ref b3_29), .val (.ref b47), .unset, .unset, .unset] []))
          refine aw1 X139 hx (hb hby at_187) rfl rfl ?_
          refine az1 X139 hx hZ (y := (⟨z_s1, "leave", "()V"⟩ : MethodName)) (z := (⟨z_s1, "leave", "()V"⟩ : MethodName)) hown (z_w hw 119 rfl) (z_w hw 120 rfl) (notFace_of_selects (args := #[]) (mvT hZ (z_w hw 122 rfl))) (z_w hw 122 rfl) (z_w hw 121 rfl) (z_w hw 28 rfl) (z_w hw 123 rfl) f0_139 (az8 l Z a0 hw [] b47 b2_62 T139.heap n0 (Nat.le_trans Z0 K139.1) f0_139 f3_139 f4_139 f5_139 bh8) 0 rfl hml' (argsL := []) (rest := []) (lenOf as2 rfl) (hb hby at_189) (fun r183 T183 L183 X183 hQ183 => ?_)
          obtain ⟨rfl, Nq183, Kq183, f0_183, f1_183, f2_183, f3_183⟩ := hQ183
          have N183 := Fr.app N139 Nq183
          have K183 := Keep.trans K139 Kq183 (allS (Or.inr ck1) all0)
          show aa0 p e below P (T183.setTop (mkF m 192 #[.val (.int p0), .val (.int p1), .val (.int p2), .val (.int p3), .val (.int p4), .val (.int cr), .val (.int ca), .val (.int v2), .val (.int (((p4.toUInt32 >>> ((2 : Int32) &&& 31).toUInt32).toInt32) &&& (3 : Int32))), .val (.int v6), .val (.ref b3_8), .val (.ref b3_10), .val (.ref b3_17), .val (.ref b3_29), .val (.ref b47), .unset, .unset, .unset] []))
          refine aw1 X183 hx (hb hby at_192) rfl rfl ?_
          refine aw1 X183 hx (hb hby at_194) rfl rfl ?_
          obtain ⟨j184, hp184⟩ := cd4 b3_8 (nar .byte (ca.toInt8.toInt32)) (nar .byte (v2.toInt8.toInt32)) (1 : Int32) (ai3 false (List.replicate 16 (0 : Int32)) (ah0 (ac0 (nar .byte (ca.toInt8.toInt32)))) (0 : Int32)) (bs4 _)
          have G186 := ((f5_80.keep Kq139).keep Kq183)
          have G187 := (f1_139.keep Kq183)
          have G188 := (f20_139.keep Kq183)
          have G189 := (f24_139.keep Kq183)
          have G190 := ((G166.keep Kq139).keep Kq183)
          have G191 := (f2_139.keep Kq183)
          have G192 := ((f6_80.keep Kq139 (ninS ne134.symm (ninS ne105.symm (ninS af8 (ninS a7 (ninS aa7 (ninS aq6 (ninS ne129.symm nin0)))))))).keep Kq183 (ninS ne134.symm nin0))
          have G193 := (f21_139.keep Kq183 (ninS ne177.symm nin0))
          have G194 := (f22_139.keep Kq183 (ninS ne177.symm nin0))
          have G195 := (f23_139.keep Kq183 (ninS ne177.symm nin0))
          have G196 := (f25_139.keep Kq183 (ninS ne178.symm nin0))
          have G197 := (f26_139.keep Kq183 (ninS ne178.symm nin0))
          have G198 := (f6_139.keep Kq183 (ninS ne135.symm nin0))
          have G199 := (f7_139.keep Kq183 (ninS ne135.symm nin0))
          have G200 := (f8_139.keep Kq183 (ninS ne135.symm nin0))
          have G201 := (f9_139.keep Kq183 (ninS ne135.symm nin0))
          have G202 := (f10_139.keep Kq183 (ninS ne135.symm nin0))
          have G203 := (f11_139.keep Kq183 (ninS ne135.symm nin0))
          have G204 := (((((((f1_10.keep Kq17 nin0).keep Kq29 nin0).ext E47).keep Kq62 (ninS ne55 nin0)).keep Kq80 (ninS ne55 (ninS ne72 nin0))).keep Kq139 (ninS ne55 (ninS ne72 (ninS ne112 (ninS ne113 (ninS ne114 (ninS ne115 (ninS ne14.symm nin0)))))))).keep Kq183 (ninS ne55 nin0))
          have G205 := (((((((f2_10.keep Kq17 nin0).keep Kq29 nin0).ext E47).keep Kq62 (ninS ne55 nin0)).keep Kq80 (ninS ne55 (ninS ne72 nin0))).keep Kq139 (ninS ne55 (ninS ne72 (ninS ne112 (ninS ne113 (ninS ne114 (ninS ne115 (ninS ne14.symm nin0)))))))).keep Kq183 (ninS ne55 nin0))
          have G206 := (((((((f3_10.keep Kq17 nin0).keep Kq29 nin0).ext E47).keep Kq62 (ninS ne55 nin0)).keep Kq80 (ninS ne55 (ninS ne72 nin0))).keep Kq139 (ninS ne55 (ninS ne72 (ninS ne112 (ninS ne113 (ninS ne114 (ninS ne115 (ninS ne14.symm nin0)))))))).keep Kq183 (ninS ne55 nin0))
          have G207 := (((((((f4_10.keep Kq17 nin0).keep Kq29 nin0).ext E47).keep Kq62 (ninS ne55 nin0)).keep Kq80 (ninS ne55 (ninS ne72 nin0))).keep Kq139 (ninS ne55 (ninS ne72 (ninS ne112 (ninS ne113 (ninS ne114 (ninS ne115 (ninS ne14.symm nin0)))))))).keep Kq183 (ninS ne55 nin0))
          have G208 := (f12_139.keep Kq183 (ninS ne60 nin0))
          have G209 := (f13_139.keep Kq183 (ninS ne60 nin0))
          have G210 := (ad2 (ad2 G145 Kq139 (allS (aw3 f0_80) (allS (ak9 f4_80) (allS (aw3 f9_80) (allS (ak9 f16_80) (allS (bs1 f17_80) (allS (bs1 f18_80) (allS (aw3 G140) all0)))))))) Kq183 (allS (aw3 f0_139) all0))
          have G211 := (f16_139.keep Kq183 (ninS ne79.symm nin0))
          have G212 := (f17_139.keep Kq183 (ninS ne136.symm nin0))
          have G213 := (f18_139.keep Kq183 (ninS ne137.symm nin0))
          have G214 := (f19_139.keep Kq183 (ninS ne138.symm nin0))
          have G215 := ((G149.keep Kq139 (ninS ne48 (ninS ne64 (ninS ne83 (ninS ne84 (ninS ne85 (ninS ne86 (ninS ne15.symm nin0)))))))).keep Kq183 (ninS ne48 nin0))
          have G216 := ((G146.keep Kq139 (ninS ne53 (ninS ne70 (ninS ne101 (ninS ne102 (ninS ne103 (ninS ne104 (ninS am7.symm nin0)))))))).keep Kq183 (ninS ne53 nin0))
          refine az1 X183 hx hZ (y := (⟨z_s1, "enter", z_s7⟩ : MethodName)) (z := (⟨z_s1, "enter", z_s7⟩ : MethodName)) hown (z_w hw 40 rfl) (z_w hw 41 rfl) (notFace_of_selects (args := #[]) (mvT hZ (z_w hw 43 rfl))) (z_w hw 43 rfl) (z_w hw 42 rfl) (z_w hw 28 rfl) (z_w hw 44 rfl) f0_183 (cp5 l Z a0 hw [] b47 b3_10 b6_80 b13_139 (((List.replicate 16 Value.null).set 0 (.ref b6_80)).set 1 (.ref b13_139)) (nar .byte (v2.toInt8.toInt32)) (ap4 false (List.replicate 16 Value.null) (ah0 (ac0 (nar .byte (ca.toInt8.toInt32)))) b3_8) (ai3 false (List.replicate 16 (0 : Int32)) (ah0 (ac0 (nar .byte (ca.toInt8.toInt32)))) (0 : Int32)) (ap6 false (List.replicate 16 (0 : Int32)) (ah0 (0 : Int32)) (ac0 (nar .byte (ca.toInt8.toInt32)))) (1 : Int32) (decide ((nar .byte (ca.toInt8.toInt32)) = (nar .byte (v2.toInt8.toInt32)))) j184 b3_8 (nar .byte (ca.toInt8.toInt32)) b2_62 b2_9_80 b2_26_139 b3_8 (ax0 false (0 : Int32)) b2_4_9_80 b7_4_9_80 b15_4_9_80 (ac5 false (0 : Int32)) (ac0 (nar .byte (ca.toInt8.toInt32))) b1_4_10 b1_4_8 ab0 T183.heap n0 (Nat.le_trans Z0 K183.1) f0_183 G186 G187 G188 G189 G190 G191 f1_183 f2_183 f3_183 G192 G193 G194 G195 G196 G197 G198 G199 G200 G201 G202 G203 G204 G205 G206 G207 G208 G209 G210 G211 G212 G213 G214 G215 G216 bh8 ct6 cn4 cl3 co1 cp1 cn0 ca5 ne177 ne178 ne135 ne136 ne137 ne138 ne55.symm bs9 ne164.symm ne160.symm ne181.symm ne147.symm ne167.symm ne165.symm ne161.symm ne182.symm ne148.symm ne168.symm bw4 bx4 bp4 ne112.symm br3 bg2 ne113.symm bh2 ne114.symm ne115.symm ne134 ne60.symm ne79 ne48.symm ne53.symm ne179.symm ne175.symm ne162.symm ne150.symm ne158.symm ne180.symm ne176.symm ne163.symm ne151.symm ne159.symm af8.symm ne130.symm ne106.symm ne83.symm ne101.symm a7.symm ne131.symm ne107.symm ne84.symm ne102.symm aa7.symm ne132.symm ne108.symm ne85.symm ne103.symm aq6.symm ne133.symm ne109.symm ne86.symm ne104.symm ne111 ne14.symm ne72 bv4 ne12.symm hnz (by simp only [ap3, ae3, aq3, List.length_set, List.length_replicate]) (by simp only [ap3, ae3, aq3, List.length_set, List.length_replicate]) (by simp only [ap3, ae3, aq3, List.length_set, List.length_replicate]) ce4 hp184 rfl rfl (by rfl)) 0 rfl hml' (argsL := [(.ref b3_10)]) (rest := []) (lenOf ai1 rfl) (hb hby at_196) (fun r185 T185 L185 X185 hQ185 => ?_)
          obtain ⟨rfl, Nq185, Kq185, f0_185, f1_185, f2_185, f3_185, f4_185, f5_185, f6_185, f7_185, f8_185, f9_185, f10_185, f11_185, f12_185, f13_185, f14_185, f15_185, f16_185, f17_185, f18_185, f19_185, f20_185, f21_185, f22_185, f23_185, f24_185, f25_185⟩ := hQ185
          have N185 := Fr.app N183 Nq185
          have K185 := Keep.trans K183 Kq185 (allS (Or.inr ck1) (allS (Or.inr cn8) (allS (Or.inr cb5) (allS (Or.inr ci4) (allS (Or.inr cq2) (allS (Or.inr cr2) (allS (Or.inr cq1) (allS (Or.inr ck7) all0))))))))
          show aa0 p e below P (T185.setTop (mkF m 199 #[.val (.int p0), .val (.int p1), .val (.int p2), .val (.int p3), .val (.int p4), .val (.int cr), .val (.int ca), .val (.int v2), .val (.int (((p4.toUInt32 >>> ((2 : Int32) &&& 31).toUInt32).toInt32) &&& (3 : Int32))), .val (.int v6), .val (.ref b3_8), .val (.ref b3_10), .val (.ref b3_17), .val (.ref b3_29), .val (.ref b47), .unset, .unset, .unset] []))
          refine aw1 X185 hx (hb hby at_199) rfl rfl ?_
          refine az1 X185 hx hZ (y := (⟨z_s1, "leave", "()V"⟩ : MethodName)) (z := (⟨z_s1, "leave", "()V"⟩ : MethodName)) hown (z_w hw 119 rfl) (z_w hw 120 rfl) (notFace_of_selects (args := #[]) (mvT hZ (z_w hw 122 rfl))) (z_w hw 122 rfl) (z_w hw 121 rfl) (z_w hw 28 rfl) (z_w hw 123 rfl) f0_185 (az8 l Z a0 hw [] b47 b2_62 T185.heap n0 (Nat.le_trans Z0 K185.1) f0_185 f5_185 f6_185 f7_185 bh8) 0 rfl hml' (argsL := []) (rest := []) (lenOf as2 rfl) (hb hby at_201) (fun r217 T217 L217 X217 hQ217 => ?_)
          obtain ⟨rfl, Nq217, Kq217, f0_217, f1_217, f2_217, f3_217⟩ := hQ217
          have N217 := Fr.app N185 Nq217
          have K217 := Keep.trans K185 Kq217 (allS (Or.inr ck1) all0)
          show aa0 p e below P (T217.setTop (mkF m 204 #[.val (.int p0), .val (.int p1), .val (.int p2), .val (.int p3), .val (.int p4), .val (.int cr), .val (.int ca), .val (.int v2), .val (.int (((p4.toUInt32 >>> ((2 : Int32) &&& 31).toUInt32).toInt32) &&& (3 : Int32))), .val (.int v6), .val (.ref b3_8), .val (.ref b3_10), .val (.ref b3_17), .val (.ref b3_29), .val (.ref b47), .unset, .unset, .unset] []))
          refine aw1 X217 hx (hb hby at_204) rfl rfl ?_
          refine aw1 X217 hx (hb hby at_206) rfl rfl ?_
          obtain ⟨j218, k218, hp218, hk218⟩ := eg3 (sb := b3_10) (nar .byte (v6.toInt8.toInt32)) (by simp only [ap3, ae3, aq3, List.length_set, List.length_replicate]) (bs4 _) hp184
          have G220 := ((G186.keep Kq185).keep Kq217)
          have G221 := (f1_185.keep Kq217)
          have G222 := (f2_185.keep Kq217)
          have G223 := (f3_185.keep Kq217)
          have G224 := ((((G169.keep Kq139).keep Kq183).keep Kq185).keep Kq217)
          have G225 := ((G191.keep Kq185).keep Kq217)
          have G226 := (f4_185.keep Kq217)
          have G227 := ((G192.keep Kq185 (ninS ne134.symm (ninS ne179 (ninS ne180 (ninS af8 (ninS a7 (ninS aa7 (ninS aq6 (ninS ne111.symm nin0))))))))).keep Kq217 (ninS ne134.symm nin0))
          have G228 := (f8_185.keep Kq217 (ninS ne177.symm nin0))
          have G229 := (f9_185.keep Kq217 (ninS ne177.symm nin0))
          have G230 := (f10_185.keep Kq217 (ninS ne177.symm nin0))
          have G231 := (f11_185.keep Kq217 (ninS ne178.symm nin0))
          have G232 := (f12_185.keep Kq217 (ninS ne178.symm nin0))
          have G233 := (f13_185.keep Kq217 (ninS ne135.symm nin0))
          have G234 := (f14_185.keep Kq217 (ninS ne135.symm nin0))
          have G235 := (f15_185.keep Kq217 (ninS ne135.symm nin0))
          have G236 := (f16_185.keep Kq217 (ninS ne135.symm nin0))
          have G237 := (f17_185.keep Kq217 (ninS ne135.symm nin0))
          have G238 := (f18_185.keep Kq217 (ninS ne135.symm nin0))
          have G239 := ((((((((f1_17.keep Kq29 nin0).ext E47).keep Kq62 (ninS ne57 nin0)).keep Kq80 (ninS ne57 (ninS ne74 nin0))).keep Kq139 (ninS ne57 (ninS ne74 (ninS ne118 (ninS ne119 (ninS ne120 (ninS ne121 (ninS ne27.symm nin0)))))))).keep Kq183 (ninS ne57 nin0)).keep Kq185 (ninS ne57 (ninS ne170 (ninS ne171 (ninS ne118 (ninS ne119 (ninS ne120 (ninS ne121 (ninS ne24.symm nin0))))))))).keep Kq217 (ninS ne57 nin0))
          have G240 := ((((((((f2_17.keep Kq29 nin0).ext E47).keep Kq62 (ninS ne57 nin0)).keep Kq80 (ninS ne57 (ninS ne74 nin0))).keep Kq139 (ninS ne57 (ninS ne74 (ninS ne118 (ninS ne119 (ninS ne120 (ninS ne121 (ninS ne27.symm nin0)))))))).keep Kq183 (ninS ne57 nin0)).keep Kq185 (ninS ne57 (ninS ne170 (ninS ne171 (ninS ne118 (ninS ne119 (ninS ne120 (ninS ne121 (ninS ne24.symm nin0))))))))).keep Kq217 (ninS ne57 nin0))
          have G241 := ((((((((f3_17.keep Kq29 nin0).ext E47).keep Kq62 (ninS ne57 nin0)).keep Kq80 (ninS ne57 (ninS ne74 nin0))).keep Kq139 (ninS ne57 (ninS ne74 (ninS ne118 (ninS ne119 (ninS ne120 (ninS ne121 (ninS ne27.symm nin0)))))))).keep Kq183 (ninS ne57 nin0)).keep Kq185 (ninS ne57 (ninS ne170 (ninS ne171 (ninS ne118 (ninS ne119 (ninS ne120 (ninS ne121 (ninS ne24.symm nin0))))))))).keep Kq217 (ninS ne57 nin0))
          have G242 := ((((((((f4_17.keep Kq29 nin0).ext E47).keep Kq62 (ninS ne57 nin0)).keep Kq80 (ninS ne57 (ninS ne74 nin0))).keep Kq139 (ninS ne57 (ninS ne74 (ninS ne118 (ninS ne119 (ninS ne120 (ninS ne121 (ninS ne27.symm nin0)))))))).keep Kq183 (ninS ne57 nin0)).keep Kq185 (ninS ne57 (ninS ne170 (ninS ne171 (ninS ne118 (ninS ne119 (ninS ne120 (ninS ne121 (ninS ne24.symm nin0))))))))).keep Kq217 (ninS ne57 nin0))
          have G243 := ((G208.keep Kq185 (ninS ne60 (ninS ne175 (ninS ne176 (ninS ne130 (ninS ne131 (ninS ne132 (ninS ne133 (ninS ne14 nin0))))))))).keep Kq217 (ninS ne60 nin0))
          have G244 := ((G209.keep Kq185 (ninS ne60 (ninS ne175 (ninS ne176 (ninS ne130 (ninS ne131 (ninS ne132 (ninS ne133 (ninS ne14 nin0))))))))).keep Kq217 (ninS ne60 nin0))
          have G245 := (f19_185.keep Kq217 (ninS ne55 nin0))
          have G246 := (f20_185.keep Kq217 (ninS ne55 nin0))
          have G247 := (ad2 (ad2 G210 Kq185 (allS (aw3 f0_183) (allS (aw3 G188) (allS (aw3 G189) (allS (aw3 G187) (allS (ak9 G212) (allS (bs1 G213) (allS (bs1 G214) (allS (aw3 G190) all0))))))))) Kq217 (allS (aw3 f0_185) all0))
          have G248 := ((G211.keep Kq185 (ninS ne79.symm (ninS ne162 (ninS ne163 (ninS ne106 (ninS ne107 (ninS ne108 (ninS ne109 (ninS ne72.symm nin0))))))))).keep Kq217 (ninS ne79.symm nin0))
          have G249 := (f23_185.keep Kq217 (ninS ne136.symm nin0))
          have G250 := (f24_185.keep Kq217 (ninS ne137.symm nin0))
          have G251 := (f25_185.keep Kq217 (ninS ne138.symm nin0))
          have G252 := ((((G152.keep Kq139 (ninS ne50 (ninS ne66 (ninS ne89 (ninS ne90 (ninS ne91 (ninS ne92 (ninS ne28.symm nin0)))))))).keep Kq183 (ninS ne50 nin0)).keep Kq185 (ninS ne50 (ninS ne153 (ninS ne154 (ninS ne89 (ninS ne90 (ninS ne91 (ninS ne92 (ninS ne25.symm nin0))))))))).keep Kq217 (ninS ne50 nin0))
          have G253 := ((G216.keep Kq185 (ninS ne53 (ninS ne158 (ninS ne159 (ninS ne101 (ninS ne102 (ninS ne103 (ninS ne104 (ninS ne12 nin0))))))))).keep Kq217 (ninS ne53 nin0))
          have G254 := ((G215.keep Kq185 (ninS ne48 (ninS ne150 (ninS ne151 (ninS ne83 (ninS ne84 (ninS ne85 (ninS ne86 (ninS bv4.symm nin0))))))))).keep Kq217 (ninS ne48 nin0))
          refine az1 X217 hx hZ (y := (⟨z_s1, "enter", z_s7⟩ : MethodName)) (z := (⟨z_s1, "enter", z_s7⟩ : MethodName)) hown (z_w hw 40 rfl) (z_w hw 41 rfl) (notFace_of_selects (args := #[]) (mvT hZ (z_w hw 43 rfl))) (z_w hw 43 rfl) (z_w hw 42 rfl) (z_w hw 28 rfl) (z_w hw 44 rfl) f0_217 (ev4 l Z a0 hw [] b47 b3_17 b6_80 b13_139 (((List.replicate 16 Value.null).set 0 (.ref b6_80)).set 1 (.ref b13_139)) (nar .byte (v6.toInt8.toInt32)) (ap4 (decide ((nar .byte (ca.toInt8.toInt32)) = (nar .byte (v2.toInt8.toInt32)))) (ap4 false (List.replicate 16 Value.null) (ah0 (ac0 (nar .byte (ca.toInt8.toInt32)))) b3_8) (ah0 j184) b3_10) (ai3 (decide ((nar .byte (ca.toInt8.toInt32)) = (nar .byte (v2.toInt8.toInt32)))) (ai3 false (List.replicate 16 (0 : Int32)) (ah0 (ac0 (nar .byte (ca.toInt8.toInt32)))) (0 : Int32)) (ah0 j184) (1 : Int32)) (ap6 (decide ((nar .byte (ca.toInt8.toInt32)) = (nar .byte (v2.toInt8.toInt32)))) (ap6 false (List.replicate 16 (0 : Int32)) (ah0 (0 : Int32)) (ac0 (nar .byte (ca.toInt8.toInt32)))) (ah0 (ac5 false (0 : Int32))) j184) k218 (decide ((nar .byte (ca.toInt8.toInt32)) = (nar .byte (v6.toInt8.toInt32)) ∨ (nar .byte (v2.toInt8.toInt32)) = (nar .byte (v6.toInt8.toInt32)))) j218 b3_8 (nar .byte (ca.toInt8.toInt32)) b3_10 (nar .byte (v2.toInt8.toInt32)) b2_62 b2_9_80 b2_26_139 b3_10 (ax0 (decide ((nar .byte (ca.toInt8.toInt32)) = (nar .byte (v2.toInt8.toInt32)))) (1 : Int32)) b2_4_9_80 b7_4_9_80 b15_4_9_80 (ac5 (decide ((nar .byte (ca.toInt8.toInt32)) = (nar .byte (v2.toInt8.toInt32)))) (ac5 false (0 : Int32))) j184 b1_4_17 b1_4_8 b1_4_10 ab0 T217.heap n0 (Nat.le_trans Z0 K217.1) f0_217 G220 G221 G222 G223 G224 G225 G226 f1_217 f2_217 f3_217 G227 G228 G229 G230 G231 G232 G233 G234 G235 G236 G237 G238 G239 G240 G241 G242 G243 G244 G245 G246 G247 G248 G249 G250 G251 G252 G253 G254 bh8 ct6 cn4 cl3 co1 cp1 cn0 em1 ne177 ne178 ne135 ne136 ne137 ne138 ne57.symm bs9 ne164.symm ne160.symm ne181.symm ne147.symm ne170.symm ne165.symm ne161.symm ne182.symm ne148.symm ne171.symm bw4 bx4 bp4 ne118.symm br3 bg2 ne119.symm bh2 ne120.symm ne121.symm ne134 ne60.symm ne55.symm ne79 ne50.symm ne53.symm ne48.symm ne179.symm ne175.symm ne167.symm ne162.symm ne153.symm ne158.symm ne150.symm ne180.symm ne176.symm ne168.symm ne163.symm ne154.symm ne159.symm ne151.symm af8.symm ne130.symm ne112.symm ne106.symm ne89.symm ne101.symm ne83.symm a7.symm ne131.symm ne113.symm ne107.symm ne90.symm ne102.symm ne84.symm aa7.symm ne132.symm ne114.symm ne108.symm ne91.symm ne103.symm ne85.symm aq6.symm ne133.symm ne115.symm ne109.symm ne92.symm ne104.symm ne86.symm ne117 ne27.symm ne24.symm ne74 cl7 ne22.symm ne19.symm hnz (by simp only [ap3, ae3, aq3, List.length_set, List.length_replicate]) (by simp only [ap3, ae3, aq3, List.length_set, List.length_replicate]) (by simp only [ap3, ae3, aq3, List.length_set, List.length_replicate]) (eh3 _) hp218 rfl rfl (by rfl)) 0 rfl hml' (argsL := [(.ref b3_17)]) (rest := []) (lenOf ai1 rfl) (hb hby at_208) (fun r219 T219 L219 X219 hQ219 => ?_)
          obtain ⟨rfl, Nq219, Kq219, f0_219, f1_219, f2_219, f3_219, f4_219, f5_219, f6_219, f7_219, f8_219, f9_219, f10_219, f11_219, f12_219, f13_219, f14_219, f15_219, f16_219, f17_219, f18_219, f19_219, f20_219, f21_219, f22_219, f23_219, f24_219, f25_219⟩ := hQ219
          have N219 := Fr.app N217 Nq219
          have K219 := Keep.trans K217 Kq219 (allS (Or.inr ck1) (allS (Or.inr cn8) (allS (Or.inr cb5) (allS (Or.inr ci4) (allS (Or.inr cq2) (allS (Or.inr cr2) (allS (Or.inr cq1) (allS (Or.inr ez3) all0))))))))
          show aa0 p e below P (T219.setTop (mkF m 211 #[.val (.int p0), .val (.int p1), .val (.int p2), .val (.int p3), .val (.int p4), .val (.int cr), .val (.int ca), .val (.int v2), .val (.int (((p4.toUInt32 >>> ((2 : Int32) &&& 31).toUInt32).toInt32) &&& (3 : Int32))), .val (.int v6), .val (.ref b3_8), .val (.ref b3_10), .val (.ref b3_17), .val (.ref b3_29), .val (.ref b47), .unset, .unset, .unset] []))
          refine aw1 X219 hx (hb hby at_211) rfl rfl ?_
          have G256 := (G248.keep Kq219 (ninS ne79.symm (ninS ne162 (ninS ne163 (ninS ne106 (ninS ne107 (ninS ne108 (ninS ne109 (ninS ne74.symm nin0)))))))))
          refine az1 X219 hx hZ (y := (⟨z_s1, "index", "()I"⟩ : MethodName)) (z := (⟨z_s1, "index", "()I"⟩ : MethodName)) hown (z_w hw 132 rfl) (z_w hw 133 rfl) (notFace_of_selects (args := #[]) (mvT hZ (z_w hw 135 rfl))) (z_w hw 135 rfl) (z_w hw 134 rfl) (z_w hw 28 rfl) (z_w hw 136 rfl) f0_219 (ck0 l Z a0 hw [] b47 b13_139 (((List.replicate 16 Value.null).set 0 (.ref b6_80)).set 1 (.ref b13_139)) b2_62 (ax0 (decide ((nar .byte (ca.toInt8.toInt32)) = (nar .byte (v6.toInt8.toInt32)) ∨ (nar .byte (v2.toInt8.toInt32)) = (nar .byte (v6.toInt8.toInt32)))) k218) T219.heap n0 (Nat.le_trans Z0 K219.1) f5_219 f6_219 f10_219 G256 rfl) 0 rfl hml' (argsL := []) (rest := []) (lenOf au4 rfl) (hb hby at_213) (fun r255 T255 L255 X255 hQ255 => ?_)
          obtain ⟨rfl, Nq255, eq255⟩ := hQ255
          have N255 := Fr.app N219 Nq255
          show aa0 p e below P (T255.setTop (mkF m 216 #[.val (.int p0), .val (.int p1), .val (.int p2), .val (.int p3), .val (.int p4), .val (.int cr), .val (.int ca), .val (.int v2), .val (.int (((p4.toUInt32 >>> ((2 : Int32) &&& 31).toUInt32).toInt32) &&& (3 : Int32))), .val (.int v6), .val (.ref b3_8), .val (.ref b3_10), .val (.ref b3_17), .val (.ref b3_29), .val (.ref b47), .unset, .unset, .unset] [(.int (ax0 (decide ((nar .byte (ca.toInt8.toInt32)) = (nar .byte (v6.toInt8.toInt32)) ∨ (nar .byte (v2.toInt8.toInt32)) = (nar .byte (v6.toInt8.toInt32)))) k218))]))
          refine as4 X255 hx (hb hby at_216) (l' := #[.val (.int p0), .val (.int p1), .val (.int p2), .val (.int p3), .val (.int p4), .val (.int cr), .val (.int ca), .val (.int v2), .val (.int (((p4.toUInt32 >>> ((2 : Int32) &&& 31).toUInt32).toInt32) &&& (3 : Int32))), .val (.int v6), .val (.ref b3_8), .val (.ref b3_10), .val (.ref b3_17), .val (.ref b3_29), .val (.ref b47), .val (.int (ax0 (decide ((nar .byte (ca.toInt8.toInt32)) = (nar .byte (v6.toInt8.toInt32)) ∨ (nar .byte (v2.toInt8.toInt32)) = (nar .byte (v6.toInt8.toInt32)))) k218)), .unset, .unset]) rfl ?_
          refine aw1 X255 hx (hb hby at_218) rfl rfl ?_
          refine az1 X255 hx hZ (y := (⟨z_s1, "leave", "()V"⟩ : MethodName)) (z := (⟨z_s1, "leave", "()V"⟩ : MethodName)) hown (z_w hw 119 rfl) (z_w hw 120 rfl) (notFace_of_selects (args := #[]) (mvT hZ (z_w hw 122 rfl))) (z_w hw 122 rfl) (z_w hw 121 rfl) (z_w hw 28 rfl) (z_w hw 123 rfl) f0_219 (az8 l Z a0 hw [] b47 b2_62 T219.heap n0 (Nat.le_trans Z0 K219.1) f0_219 f5_219 f6_219 f7_219 bh8) 0 eq255 hml' (argsL := []) (rest := []) (lenOf as2 rfl) (hb hby at_220) (fun r257 T257 L257 X257 hQ257 => ?_)
          obtain ⟨rfl, Nq257, Kq257, f0_257, f1_257, f2_257, f3_257⟩ := hQ257
          have N257 := Fr.app N255 Nq257
          have K257 := Keep.trans K219 Kq257 (allS (Or.inr ck1) all0)
          show aa0 p e below P (T257.setTop (mkF m 223 #[.val (.int p0), .val (.int p1), .val (.int p2), .val (.int p3), .val (.int p4), .val (.int cr), .val (.int ca), .val (.int v2), .val (.int (((p4.toUInt32 >>> ((2 : Int32) &&& 31).toUInt32).toInt32) &&& (3 : Int32))), .val (.int v6), .val (.ref b3_8), .val (.ref b3_10), .val (.ref b3_17), .val (.ref b3_29), .val (.ref b47), .val (.int (ax0 (decide ((nar .byte (ca.toInt8.toInt32)) = (nar .byte (v6.toInt8.toInt32)) ∨ (nar .byte (v2.toInt8.toInt32)) = (nar .byte (v6.toInt8.toInt32)))) k218)), .unset, .unset] []))
          refine aw1 X257 hx (hb hby at_223) rfl rfl ?_
          have G259 := ((((((f8_80.keep Kq139 (ninS ne134.symm (ninS ne105.symm (ninS af8 (ninS a7 (ninS aa7 (ninS aq6 (ninS ne129.symm nin0)))))))).keep Kq183 (ninS ne134.symm nin0)).keep Kq185 (ninS ne134.symm (ninS ne179 (ninS ne180 (ninS af8 (ninS a7 (ninS aa7 (ninS aq6 (ninS ne111.symm nin0))))))))).keep Kq217 (ninS ne134.symm nin0)).keep Kq219 (ninS ne134.symm (ninS ne179 (ninS ne180 (ninS af8 (ninS a7 (ninS aa7 (ninS aq6 (ninS ne117.symm nin0))))))))).keep Kq257 (ninS ne134.symm nin0))
          have G260 := (G256.keep Kq257 (ninS ne79.symm nin0))
          refine az1 X257 hx hZ (y := (⟨z_s1, "index", "()I"⟩ : MethodName)) (z := (⟨z_s1, "index", "()I"⟩ : MethodName)) hown (z_w hw 132 rfl) (z_w hw 133 rfl) (notFace_of_selects (args := #[]) (mvT hZ (z_w hw 135 rfl))) (z_w hw 135 rfl) (z_w hw 134 rfl) (z_w hw 28 rfl) (z_w hw 136 rfl) f0_257 (cl0 l Z a0 hw [] b47 b6_80 (((List.replicate 16 Value.null).set 0 (.ref b6_80)).set 1 (.ref b13_139)) b2_62 (1 : Int32) T257.heap n0 (Nat.le_trans Z0 K257.1) f1_257 f2_257 G259 G260 rfl) 0 rfl hml' (argsL := []) (rest := []) (lenOf au4 rfl) (hb hby at_225) (fun r258 T258 L258 X258 hQ258 => ?_)
          obtain ⟨rfl, Nq258, eq258⟩ := hQ258
          have N258 := Fr.app N257 Nq258
          show aa0 p e below P (T258.setTop (mkF m 228 #[.val (.int p0), .val (.int p1), .val (.int p2), .val (.int p3), .val (.int p4), .val (.int cr), .val (.int ca), .val (.int v2), .val (.int (((p4.toUInt32 >>> ((2 : Int32) &&& 31).toUInt32).toInt32) &&& (3 : Int32))), .val (.int v6), .val (.ref b3_8), .val (.ref b3_10), .val (.ref b3_17), .val (.ref b3_29), .val (.ref b47), .val (.int (ax0 (decide ((nar .byte (ca.toInt8.toInt32)) = (nar .byte (v6.toInt8.toInt32)) ∨ (nar .byte (v2.toInt8.toInt32)) = (nar .byte (v6.toInt8.toInt32)))) k218)), .unset, .unset] [(.int (1 : Int32))]))
          refine as4 X258 hx (hb hby at_228) (l' := #[.val (.int p0), .val (.int p1), .val (.int p2), .val (.int p3), .val (.int p4), .val (.int cr), .val (.int ca), .val (.int v2), .val (.int (((p4.toUInt32 >>> ((2 : Int32) &&& 31).toUInt32).toInt32) &&& (3 : Int32))), .val (.int v6), .val (.ref b3_8), .val (.ref b3_10), .val (.ref b3_17), .val (.ref b3_29), .val (.ref b47), .val (.int (ax0 (decide ((nar .byte (ca.toInt8.toInt32)) = (nar .byte (v6.toInt8.toInt32)) ∨ (nar .byte (v2.toInt8.toInt32)) = (nar .byte (v6.toInt8.toInt32)))) k218)), .val (.int (1 : Int32)), .unset]) rfl ?_
          refine az0 X258 hx (hb hby at_230) (z := (1 : Int32)) rfl ?_
          refine ay1 X258 hx (hb hby at_231) rfl ?_
          refine ay1 X258 hx (hb hby at_233) rfl ?_
          have J263 : ∀ v262 : Int32, v262 = (if ca = v6 then (1 : Int32) else (0 : Int32)) → aa0 p e below P (T258.setTop (mkF m 243 #[.val (.int p0), .val (.int p1), .val (.int p2), .val (.int p3), .val (.int p4), .val (.int cr), .val (.int ca), .val (.int v2), .val (.int (((p4.toUInt32 >>> ((2 : Int32) &&& 31).toUInt32).toInt32) &&& (3 : Int32))), .val (.int v6), .val (.ref b3_8), .val (.ref b3_10), .val (.ref b3_17), .val (.ref b3_29), .val (.ref b47), .val (.int (ax0 (decide ((nar .byte (ca.toInt8.toInt32)) = (nar .byte (v6.toInt8.toInt32)) ∨ (nar .byte (v2.toInt8.toInt32)) = (nar .byte (v6.toInt8.toInt32)))) k218)), .val (.int (1 : Int32)), .unset] [(.int v262), (.int (1 : Int32))])) := by
            intro v262 e_v262
            refine ad6 X258 hx (hb hby at_243) (z := ((1 : Int32) + v262)) rfl ?_
            refine ay1 X258 hx (hb hby at_244) rfl ?_
            refine ay1 X258 hx (hb hby at_246) rfl ?_
            have J266 : ∀ v265 : Int32, v265 = (if v2 = v6 then (1 : Int32) else (0 : Int32)) → aa0 p e below P (T258.setTop (mkF m 256 #[.val (.int p0), .val (.int p1), .val (.int p2), .val (.int p3), .val (.int p4), .val (.int cr), .val (.int ca), .val (.int v2), .val (.int (((p4.toUInt32 >>> ((2 : Int32) &&& 31).toUInt32).toInt32) &&& (3 : Int32))), .val (.int v6), .val (.ref b3_8), .val (.ref b3_10), .val (.ref b3_17), .val (.ref b3_29), .val (.ref b47), .val (.int (ax0 (decide ((nar .byte (ca.toInt8.toInt32)) = (nar .byte (v6.toInt8.toInt32)) ∨ (nar .byte (v2.toInt8.toInt32)) = (nar .byte (v6.toInt8.toInt32)))) k218)), .val (.int (1 : Int32)), .unset] [(.int v265), (.int ((1 : Int32) + v262))])) := by
              intro v265 e_v265
              refine ad6 X258 hx (hb hby at_256) (z := (((1 : Int32) + v262) + v265)) rfl ?_
              refine as4 X258 hx (hb hby at_257) (l' := #[.val (.int p0), .val (.int p1), .val (.int p2), .val (.int p3), .val (.int p4), .val (.int cr), .val (.int ca), .val (.int v2), .val (.int (((p4.toUInt32 >>> ((2 : Int32) &&& 31).toUInt32).toInt32) &&& (3 : Int32))), .val (.int v6), .val (.ref b3_8), .val (.ref b3_10), .val (.ref b3_17), .val (.ref b3_29), .val (.ref b47), .val (.int (ax0 (decide ((nar .byte (ca.toInt8.toInt32)) = (nar .byte (v6.toInt8.toInt32)) ∨ (nar .byte (v2.toInt8.toInt32)) = (nar .byte (v6.toInt8.toInt32)))) k218)), .val (.int (1 : Int32)), .val (.int (((1 : Int32) + v262) + v265))]) rfl ?_
              refine ay1 X258 hx (hb hby at_259) rfl ?_
              refine ay1 X258 hx (hb hby at_261) rfl ?_
              have hd267 : (ax0 (decide ((nar .byte (ca.toInt8.toInt32)) = (nar .byte (v6.toInt8.toInt32)) ∨ (nar .byte (v2.toInt8.toInt32)) = (nar .byte (v6.toInt8.toInt32)))) k218) = (((1 : Int32) + v262) + v265) := by rw [e_v262, e_v265]; exact ee1 Ha Hb Hc hk218
              refine a4 X258 hx (hb hby at_263) (teq hd267).2 ?_
              refine ay1 X258 hx (hb hby at_266) rfl ?_
              refine az0 X258 hx (hb hby at_268) (z := (1 : Int32)) rfl ?_
              refine a4 X258 hx (hb hby at_269) (teq (by decide : (1 : Int32) = (1 : Int32))).2 ?_
              refine az0 X258 hx (hb hby at_272) (z := (1 : Int32)) rfl ?_
              refine ao4 X258 hx (pc' := 277) (hb hby at_273) ?_
              exact bd1 X258 hx hlk hP (t := .boolean) (by simp) hrt (hb hby at_277) (by decide) (by decide) ⟨rfl, N258⟩
            by_cases hc264 : v2 = v6
            · refine a4 X258 hx (hb hby at_248) (teq hc264).2 ?_
              refine az0 X258 hx (hb hby at_251) (z := (1 : Int32)) rfl ?_
              refine ao4 X258 hx (pc' := 256) (hb hby at_252) ?_
              exact J266 _ ((if_pos hc264).trans (rfl)).symm
            · refine au3 X258 hx (pc' := 255) (hb hby at_248) (feq hc264).2 ?_
              refine az0 X258 hx (hb hby at_255) (z := (0 : Int32)) rfl ?_
              exact J266 _ ((if_neg hc264).trans (rfl)).symm
          by_cases hc261 : ca = v6
          · refine a4 X258 hx (hb hby at_235) (teq hc261).2 ?_
            refine az0 X258 hx (hb hby at_238) (z := (1 : Int32)) rfl ?_
            refine ao4 X258 hx (pc' := 243) (hb hby at_239) ?_
            exact J263 _ ((if_pos hc261).trans (rfl)).symm
          · refine au3 X258 hx (pc' := 242) (hb hby at_235) (feq hc261).2 ?_
            refine az0 X258 hx (hb hby at_242) (z := (0 : Int32)) rfl ?_
            exact J263 _ ((if_neg hc261).trans (rfl)).symm
        have Jn268 : aa0 p e below P (T10.setTop (mkF m 128 #[.val (.int p0), .val (.int p1), .val (.int p2), .val (.int p3), .val (.int p4), .val (.int cr), .val (.int ca), .val (.int v2), .val (.int (((p4.toUInt32 >>> ((2 : Int32) &&& 31).toUInt32).toInt32) &&& (3 : Int32))), .val (.int v6), .val (.ref b3_8), .val (.ref b3_10), .unset, .unset, .unset, .unset, .unset, .unset] [])) := by
          refine ay1 X10 hx (hb hby at_128) rfl ?_
          refine bu4 X10 hx (hb hby at_130) (z := (32 : Int32)) rfl ?_
          refine az7 X10 hx (hb hby at_132) (z := (p4 &&& (32 : Int32))) rfl ?_
          by_cases hc269 : (p4 &&& (32 : Int32)) = (0 : Int32)
          · refine al7 X10 hx (pc' := 150) (hb hby at_133) ((if0 _ _).trans (teq hc269).1) ?_
            exact Jn16
          · refine aq7 X10 hx (hb hby at_133) ((if0 _ _).trans (feq hc269).1) ?_
            refine ay1 X10 hx (hb hby at_136) rfl ?_
            refine ay1 X10 hx (hb hby at_138) rfl ?_
            by_cases hc270 : v6 = ca
            · refine a4 X10 hx (hb hby at_140) (teq hc270).2 ?_
              refine aw1 X10 hx (hb hby at_143) rfl rfl ?_
              refine ao6 X10 hx (hb hby at_145) rfl (l' := #[.val (.int p0), .val (.int p1), .val (.int p2), .val (.int p3), .val (.int p4), .val (.int cr), .val (.int ca), .val (.int v2), .val (.int (((p4.toUInt32 >>> ((2 : Int32) &&& 31).toUInt32).toInt32) &&& (3 : Int32))), .val (.int v6), .val (.ref b3_8), .val (.ref b3_10), .val (.ref b3_8), .unset, .unset, .unset, .unset, .unset]) rfl ?_
              refine ao4 X10 hx (pc' := 157) (hb hby at_147) ?_
              refine ay1 X10 hx (hb hby at_157) rfl ?_
              have G272 := (ad2 G11 Kq10 all0)
              refine as5 X10 hx hZ (y := (⟨z_s2, "valueOf", "(C)Ljava/lang/String;"⟩ : MethodName)) hown (z_w hw 0 rfl) (z_w hw 1 rfl) (z_w hw 2 rfl) (z_w hw 3 rfl) (bd5 l Z a0 hw [] cr ab0 T10.heap n0 (Nat.le_trans Z0 K10.1) G272 hnz (bp3 Hr)) 0 rfl hml' (argsL := [(.int cr)]) (rest := []) (lenOf aj3 rfl) (hb hby at_159) (fun r271 T271 L271 X271 hQ271 => ?_)
              obtain ⟨b3_271, b1_4_271, rfl, Nq271, Kq271, bt9, eh6, bv6, ed5, en1, f0_271, f1_271, f2_271, f3_271, f4_271, f5_271⟩ := hQ271
              have N271 := Fr.app N10 Nq271
              have ne273 := z_nc f5_10.lt bt9
              have ne274 := z_nc f5_10.lt bv6
              have G275 := (f5_8.keep Kq10 nin0)
              have ne276 := z_nc G275.lt bt9
              have ne277 := z_nc G275.lt bv6
              have ne278 := z_nc f0_10.lt bt9
              have ne279 := z_nc f0_10.lt bv6
              have G280 := (f0_8.keep Kq10)
              have ne281 := z_nc G280.lt bt9
              have ne282 := z_nc G280.lt bv6
              have ea7 := Nat.le_trans K10.1 bt9
              have es5 := Nat.le_trans K10.1 bv6
              have K271 := Keep.trans K10 Kq271 all0
              show aa0 p e below P (T271.setTop (mkF m 162 #[.val (.int p0), .val (.int p1), .val (.int p2), .val (.int p3), .val (.int p4), .val (.int cr), .val (.int ca), .val (.int v2), .val (.int (((p4.toUInt32 >>> ((2 : Int32) &&& 31).toUInt32).toInt32) &&& (3 : Int32))), .val (.int v6), .val (.ref b3_8), .val (.ref b3_10), .val (.ref b3_8), .unset, .unset, .unset, .unset, .unset] [(.ref b3_271)]))
              refine ao6 X271 hx (hb hby at_162) rfl (l' := #[.val (.int p0), .val (.int p1), .val (.int p2), .val (.int p3), .val (.int p4), .val (.int cr), .val (.int ca), .val (.int v2), .val (.int (((p4.toUInt32 >>> ((2 : Int32) &&& 31).toUInt32).toInt32) &&& (3 : Int32))), .val (.int v6), .val (.ref b3_8), .val (.ref b3_10), .val (.ref b3_8), .val (.ref b3_271), .unset, .unset, .unset, .unset]) rfl ?_
              obtain ⟨T283, h283, X283, e283, E283, A283, D283, -, st283⟩ := newO X271 hx hZ hown (z_w hw 26 rfl) (z_w hw 27 rfl) (z_w hw 28 rfl) rfl (g := (mkF m 164 #[.val (.int p0), .val (.int p1), .val (.int p2), .val (.int p3), .val (.int p4), .val (.int cr), .val (.int ca), .val (.int v2), .val (.int (((p4.toUInt32 >>> ((2 : Int32) &&& 31).toUInt32).toInt32) &&& (3 : Int32))), .val (.int v6), .val (.ref b3_8), .val (.ref b3_10), .val (.ref b3_8), .val (.ref b3_271), .unset, .unset, .unset, .unset] [])) rfl (hb hby at_164) (by decide) (by decide)
              obtain ⟨b283, g283⟩ : ∃ z, z = T271.heap.size := ⟨_, rfl⟩
              rw [← g283] at A283 D283 st283
              have G285 := (f5_10.keep Kq271 nin0)
              have ne284 := z_nb G285.lt g283
              have ne286 := z_nb f5_271.lt g283
              have G288 := (G275.keep Kq271 nin0)
              have ne287 := z_nb G288.lt g283
              have G290 := (f0_10.keep Kq271)
              have ne289 := z_nb G290.lt g283
              have ne291 := z_nb f0_271.lt g283
              have G293 := (G280.keep Kq271)
              have ne292 := z_nb G293.lt g283
              have bw6 : n0 ≤ b283 := Nat.le_trans (Nat.le_trans Z0 K271.1) (Nat.le_of_eq g283.symm)
              have bi8 : h0.size ≤ b283 := Nat.le_trans K271.1 (Nat.le_of_eq g283.symm)
              have K283 := Keep.ext K271 E283
              have dk0 : Fld Z h283 b283 z_s1 "levels" z_s4 .null := D283 (Or.inl (z_w hw 36 rfl)) (ty := (.array (.object z_s3))) (by decide)
              have dn4 : Fld Z h283 b283 z_s1 "path" "[C" .null := D283 (Or.inl (z_w hw 39 rfl)) (ty := (.array .char)) (by decide)
              have dg1 : Fld Z h283 b283 z_s1 "depth" "I" (.int (0 : Int32)) := D283 (Or.inl (z_w hw 46 rfl)) (ty := .int) (by decide)
              have cg9 : Fld Z h283 b283 z_s1 "written" "I" (.int (0 : Int32)) := D283 (Or.inl (z_w hw 87 rfl)) (ty := .int) (by decide)
              refine an1 (fun _ => st283 _) ?_
              show aa0 p e below P (T283.setTop (mkF m 167 #[.val (.int p0), .val (.int p1), .val (.int p2), .val (.int p3), .val (.int p4), .val (.int cr), .val (.int ca), .val (.int v2), .val (.int (((p4.toUInt32 >>> ((2 : Int32) &&& 31).toUInt32).toInt32) &&& (3 : Int32))), .val (.int v6), .val (.ref b3_8), .val (.ref b3_10), .val (.ref b3_8), .val (.ref b3_271), .unset, .unset, .unset, .unset] [(.ref b283)]))
              refine bi0 X283 hx (hb hby at_167) rfl ?_
              refine cb0 X283 hx hZ (y := (⟨z_s1, "<init>", "()V"⟩ : MethodName)) hown (z_w hw 29 rfl) (z_w hw 30 rfl) (z_w hw 28 rfl) (z_w hw 31 rfl) (ce2 l Z a0 hw [] b283  h283 n0 (Nat.le_trans Z0 K283.1) A283 dk0 dn4 dg1 cg9 bw6) 1 e283 hml' (a := b283) (argsL := []) (rest := [(.ref b283)]) (lenOf as2 rfl) (hb hby at_168) (fun r294 T294 L294 X294 hQ294 => ?_)
              obtain ⟨b2_294, rfl, Nq294, Kq294, bp2, co8, f0_294, f1_294, f2_294, f3_294, f4_294⟩ := hQ294
              have N294 := Fr.app N271 Nq294
              have G295 := (G285.ext E283)
              have ne296 := z_nc G295.lt bp2
              have G297 := (f5_271.ext E283)
              have ne298 := z_nc G297.lt bp2
              have G299 := (G288.ext E283)
              have ne300 := z_nc G299.lt bp2
              have ne301 := z_nc A283.lt bp2
              have G302 := (G290.ext E283)
              have ne303 := z_nc G302.lt bp2
              have G304 := (f0_271.ext E283)
              have ne305 := z_nc G304.lt bp2
              have G306 := (G293.ext E283)
              have ne307 := z_nc G306.lt bp2
              have da0 := Nat.le_trans K283.1 bp2
              have K294 := Keep.trans K283 Kq294 (allS (Or.inr bi8) all0)
              show aa0 p e below P (T294.setTop (mkF m 171 #[.val (.int p0), .val (.int p1), .val (.int p2), .val (.int p3), .val (.int p4), .val (.int cr), .val (.int ca), .val (.int v2), .val (.int (((p4.toUInt32 >>> ((2 : Int32) &&& 31).toUInt32).toInt32) &&& (3 : Int32))), .val (.int v6), .val (.ref b3_8), .val (.ref b3_10), .val (.ref b3_8), .val (.ref b3_271), .unset, .unset, .unset, .unset] [(.ref b283)]))
              refine ao6 X294 hx (hb hby at_171) rfl (l' := #[.val (.int p0), .val (.int p1), .val (.int p2), .val (.int p3), .val (.int p4), .val (.int cr), .val (.int ca), .val (.int v2), .val (.int (((p4.toUInt32 >>> ((2 : Int32) &&& 31).toUInt32).toInt32) &&& (3 : Int32))), .val (.int v6), .val (.ref b3_8), .val (.ref b3_10), .val (.ref b3_8), .val (.ref b3_271), .val (.ref b283), .unset, .unset, .unset]) rfl ?_
              refine aw1 X294 hx (hb hby at_173) rfl rfl ?_
              refine aw1 X294 hx (hb hby at_175) rfl rfl ?_
              refine az1 X294 hx hZ (y := (⟨z_s1, "enter", z_s7⟩ : MethodName)) (z := (⟨z_s1, "enter", z_s7⟩ : MethodName)) hown (z_w hw 40 rfl) (z_w hw 41 rfl) (notFace_of_selects (args := #[]) (mvT hZ (z_w hw 43 rfl))) (z_w hw 43 rfl) (z_w hw 42 rfl) (z_w hw 28 rfl) (z_w hw 44 rfl) f0_294 (cg2 l Z a0 hw [] b283 b3_271 b2_294 T294.heap n0 (Nat.le_trans Z0 K294.1) f0_294 f1_294 f2_294 f3_294 f4_294 bw6 co8 ne301) 0 rfl hml' (argsL := [(.ref b3_271)]) (rest := []) (lenOf ai1 rfl) (hb hby at_177) (fun r308 T308 L308 X308 hQ308 => ?_)
              obtain ⟨b6_308, b2_9_308, b2_4_9_308, b7_4_9_308, b15_4_9_308, rfl, Nq308, Kq308, bm1, ei6, b0, cs2, al8, cv3, am8, co0, as7, ca3, ab7, an8, bs3, ak6, bt3, bc2, av7, bl7, bj6, bk6, f0_308, f1_308, f2_308, f3_308, f4_308, f5_308, f6_308, f7_308, f8_308, f9_308, f10_308, f11_308, f12_308, f13_308, f14_308, f15_308, f16_308, f17_308, f18_308⟩ := hQ308
              have N308 := Fr.app N294 Nq308
              have G309 := (G295.keep Kq294 (ninS ne284 nin0))
              have ne310 := z_nc G309.lt bm1
              have ne311 := z_nc G309.lt b0
              have ne312 := z_nc G309.lt al8
              have ne313 := z_nc G309.lt am8
              have ne314 := z_nc G309.lt as7
              have G315 := (G297.keep Kq294 (ninS ne286 nin0))
              have ne316 := z_nc G315.lt bm1
              have ne317 := z_nc G315.lt b0
              have ne318 := z_nc G315.lt al8
              have ne319 := z_nc G315.lt am8
              have ne320 := z_nc G315.lt as7
              have G321 := (G299.keep Kq294 (ninS ne287 nin0))
              have ne322 := z_nc G321.lt bm1
              have ne323 := z_nc G321.lt b0
              have ne324 := z_nc G321.lt al8
              have ne325 := z_nc G321.lt am8
              have ne326 := z_nc G321.lt as7
              have ne327 := z_nc f0_294.lt bm1
              have ne328 := z_nc f0_294.lt b0
              have ne329 := z_nc f0_294.lt al8
              have ne330 := z_nc f0_294.lt am8
              have ne331 := z_nc f0_294.lt as7
              have ne332 := z_nc f4_294.lt bm1
              have ne333 := z_nc f4_294.lt b0
              have ne334 := z_nc f4_294.lt al8
              have ne335 := z_nc f4_294.lt am8
              have ne336 := z_nc f4_294.lt as7
              have G337 := (G302.keep Kq294)
              have ne338 := z_nc G337.lt bm1
              have ne339 := z_nc G337.lt b0
              have ne340 := z_nc G337.lt al8
              have ne341 := z_nc G337.lt am8
              have ne342 := z_nc G337.lt as7
              have G343 := (G304.keep Kq294)
              have ne344 := z_nc G343.lt bm1
              have ne345 := z_nc G343.lt b0
              have ne346 := z_nc G343.lt al8
              have ne347 := z_nc G343.lt am8
              have ne348 := z_nc G343.lt as7
              have G349 := (G306.keep Kq294)
              have ne350 := z_nc G349.lt bm1
              have ne351 := z_nc G349.lt b0
              have ne352 := z_nc G349.lt al8
              have ne353 := z_nc G349.lt am8
              have ne354 := z_nc G349.lt as7
              have eb7 := Nat.le_trans K294.1 bm1
              have cm3 := Nat.le_trans K294.1 b0
              have co4 := Nat.le_trans K294.1 al8
              have cr1 := Nat.le_trans K294.1 am8
              have cw3 := Nat.le_trans K294.1 as7
              have K308 := Keep.trans K294 Kq308 (allS (Or.inr bi8) (allS (Or.inr da0) all0))
              show aa0 p e below P (T308.setTop (mkF m 180 #[.val (.int p0), .val (.int p1), .val (.int p2), .val (.int p3), .val (.int p4), .val (.int cr), .val (.int ca), .val (.int v2), .val (.int (((p4.toUInt32 >>> ((2 : Int32) &&& 31).toUInt32).toInt32) &&& (3 : Int32))), .val (.int v6), .val (.ref b3_8), .val (.ref b3_10), .val (.ref b3_8), .val (.ref b3_271), .val (.ref b283), .unset, .unset, .unset] []))
              refine aw1 X308 hx (hb hby at_180) rfl rfl ?_
              refine aw1 X308 hx (hb hby at_182) rfl rfl ?_
              have G356 := (G349.keep Kq308)
              have G357 := (((((f1_8.keep Kq10 nin0).keep Kq271 nin0).ext E283).keep Kq294 (ninS ne292 nin0)).keep Kq308 (ninS ne292 (ninS ne307 nin0)))
              have G358 := (((((f2_8.keep Kq10 nin0).keep Kq271 nin0).ext E283).keep Kq294 (ninS ne292 nin0)).keep Kq308 (ninS ne292 (ninS ne307 nin0)))
              have G359 := (((((f3_8.keep Kq10 nin0).keep Kq271 nin0).ext E283).keep Kq294 (ninS ne292 nin0)).keep Kq308 (ninS ne292 (ninS ne307 nin0)))
              have G360 := (((((f4_8.keep Kq10 nin0).keep Kq271 nin0).ext E283).keep Kq294 (ninS ne292 nin0)).keep Kq308 (ninS ne292 (ninS ne307 nin0)))
              have G361 := (ad2 (ad2 ((ad2 G272 Kq271 all0).ext E283) Kq294 (allS (aw3 A283) all0)) Kq308 (allS (aw3 f0_294) (allS (ak9 f4_294) all0)))
              have G362 := (G321.keep Kq308 (ninS ne287 (ninS ne300 nin0)))
              refine az1 X308 hx hZ (y := (⟨z_s1, "enter", z_s7⟩ : MethodName)) (z := (⟨z_s1, "enter", z_s7⟩ : MethodName)) hown (z_w hw 40 rfl) (z_w hw 41 rfl) (notFace_of_selects (args := #[]) (mvT hZ (z_w hw 43 rfl))) (z_w hw 43 rfl) (z_w hw 42 rfl) (z_w hw 28 rfl) (z_w hw 44 rfl) f0_308 (ch2 l Z a0 hw [] b283 b3_8 b6_308 ((List.replicate 16 Value.null).set 0 (.ref b6_308)) (nar .byte (ca.toInt8.toInt32)) (List.replicate 16 Value.null) (List.replicate 16 (0 : Int32)) (List.replicate 16 (0 : Int32)) (0 : Int32) b2_294 b2_9_308 b2_4_9_308 b7_4_9_308 b15_4_9_308 (0 : Int32) (0 : Int32) b1_4_8 ab0 T308.heap n0 (Nat.le_trans Z0 K308.1) f0_308 f5_308 f9_308 G356 f1_308 f2_308 f3_308 f6_308 f10_308 f11_308 f12_308 f13_308 f14_308 f15_308 G357 G358 G359 G360 G361 f4_308 f16_308 f17_308 f18_308 G362 bw6 co8 cs2 cv3 co0 ca3 cm0 ne301 ne328 ne329 ne330 ne331 ne292.symm ne333 ne334 ne335 ne336 ne307.symm bs3 bt3 bl7 ne351.symm bc2 bj6 ne352.symm bk6 ne353.symm ne354.symm ne327 ne287.symm ne332 ne300.symm ab7.symm ne323.symm an8.symm ne324.symm ak6.symm ne325.symm av7.symm ne326.symm ne350 am7 hnz (by simp only [ap3, ae3, aq3, List.length_set, List.length_replicate]) (by simp only [ap3, ae3, aq3, List.length_set, List.length_replicate]) (by simp only [ap3, ae3, aq3, List.length_set, List.length_replicate]) (Or.inl rfl) (ch0 _) rfl rfl (by rfl)) 0 rfl hml' (argsL := [(.ref b3_8)]) (rest := []) (lenOf ai1 rfl) (hb hby at_184) (fun r355 T355 L355 X355 hQ355 => ?_)
              obtain ⟨b13_355, b2_26_355, rfl, Nq355, Kq355, aw6, cu6, au5, cp4, bu9, f0_355, f1_355, f2_355, f3_355, f4_355, f5_355, f6_355, f7_355, f8_355, f9_355, f10_355, f11_355, f12_355, f13_355, f14_355, f15_355, f16_355, f17_355, f18_355, f19_355, f20_355, f21_355, f22_355, f23_355, f24_355, f25_355, f26_355⟩ := hQ355
              have N355 := Fr.app N308 Nq355
              have ne363 := z_nc f18_308.lt aw6
              have ne364 := z_nc f18_308.lt au5
              have G365 := (G309.keep Kq308 (ninS ne284 (ninS ne296 nin0)))
              have ne366 := z_nc G365.lt aw6
              have ne367 := z_nc G365.lt au5
              have G368 := (G315.keep Kq308 (ninS ne286 (ninS ne298 nin0)))
              have ne369 := z_nc G368.lt aw6
              have ne370 := z_nc G368.lt au5
              have ne371 := z_nc G362.lt aw6
              have ne372 := z_nc G362.lt au5
              have ne373 := z_nc f0_308.lt aw6
              have ne374 := z_nc f0_308.lt au5
              have ne375 := z_nc f4_308.lt aw6
              have ne376 := z_nc f4_308.lt au5
              have ne377 := z_nc f16_308.lt aw6
              have ne378 := z_nc f16_308.lt au5
              have ne379 := z_nc f9_308.lt aw6
              have ne380 := z_nc f9_308.lt au5
              have G381 := (G337.keep Kq308)
              have ne382 := z_nc G381.lt aw6
              have ne383 := z_nc G381.lt au5
              have G384 := (G343.keep Kq308)
              have ne385 := z_nc G384.lt aw6
              have ne386 := z_nc G384.lt au5
              have ne387 := z_nc G356.lt aw6
              have ne388 := z_nc G356.lt au5
              have ne389 := z_nc f5_308.lt aw6
              have ne390 := z_nc f5_308.lt au5
              have ne391 := z_nc f17_308.lt aw6
              have ne392 := z_nc f17_308.lt au5
              have cp8 := Nat.le_trans K308.1 aw6
              have cc5 := Nat.le_trans K308.1 au5
              have K355 := Keep.trans K308 Kq355 (allS (Or.inr bi8) (allS (Or.inr da0) (allS (Or.inr cm3) (allS (Or.inr co4) (allS (Or.inr cr1) (allS (Or.inr cw3) (allS (Or.inr cj2) all0)))))))
              show aa0 p e below P (T355.setTop (mkF m 187 #[.val (.int p0), .val (.int p1), .val (.int p2), .val (.int p3), .val (.int p4), .val (.int cr), .val (.int ca), .val (.int v2), .val (.int (((p4.toUInt32 >>> ((2 : Int32) &&& 31).toUInt32).toInt32) &&& (3 : Int32))), .val (.int v6), .val (.ref b3_8), .val (.ref b3_10), .val (.ref b3_8), .val (.ref b3_271), .val (.ref b283), .unset, .unset, .unset] []))
              refine aw1 X355 hx (hb hby at_187) rfl rfl ?_
              refine az1 X355 hx hZ (y := (⟨z_s1, "leave", "()V"⟩ : MethodName)) (z := (⟨z_s1, "leave", "()V"⟩ : MethodName)) hown (z_w hw 119 rfl) (z_w hw 120 rfl) (notFace_of_selects (args := #[]) (mvT hZ (z_w hw 122 rfl))) (z_w hw 122 rfl) (z_w hw 121 rfl) (z_w hw 28 rfl) (z_w hw 123 rfl) f0_355 (az8 l Z a0 hw [] b283 b2_294 T355.heap n0 (Nat.le_trans Z0 K355.1) f0_355 f3_355 f4_355 f5_355 bw6) 0 rfl hml' (argsL := []) (rest := []) (lenOf as2 rfl) (hb hby at_189) (fun r393 T393 L393 X393 hQ393 => ?_)
              obtain ⟨rfl, Nq393, Kq393, f0_393, f1_393, f2_393, f3_393⟩ := hQ393
              have N393 := Fr.app N355 Nq393
              have K393 := Keep.trans K355 Kq393 (allS (Or.inr bi8) all0)
              show aa0 p e below P (T393.setTop (mkF m 192 #[.val (.int p0), .val (.int p1), .val (.int p2), .val (.int p3), .val (.int p4), .val (.int cr), .val (.int ca), .val (.int v2), .val (.int (((p4.toUInt32 >>> ((2 : Int32) &&& 31).toUInt32).toInt32) &&& (3 : Int32))), .val (.int v6), .val (.ref b3_8), .val (.ref b3_10), .val (.ref b3_8), .val (.ref b3_271), .val (.ref b283), .unset, .unset, .unset] []))
              refine aw1 X393 hx (hb hby at_192) rfl rfl ?_
              refine aw1 X393 hx (hb hby at_194) rfl rfl ?_
              obtain ⟨j394, hp394⟩ := cd4 b3_8 (nar .byte (ca.toInt8.toInt32)) (nar .byte (v2.toInt8.toInt32)) (1 : Int32) (ai3 false (List.replicate 16 (0 : Int32)) (ah0 (ac0 (nar .byte (ca.toInt8.toInt32)))) (0 : Int32)) (bs4 _)
              have G396 := ((f5_308.keep Kq355).keep Kq393)
              have G397 := (f1_355.keep Kq393)
              have G398 := (f20_355.keep Kq393)
              have G399 := (f24_355.keep Kq393)
              have G400 := ((G381.keep Kq355).keep Kq393)
              have G401 := (f2_355.keep Kq393)
              have G402 := ((f6_308.keep Kq355 (ninS ne327.symm (ninS ne332.symm (ninS ab7 (ninS an8 (ninS ak6 (ninS av7 (ninS ne350.symm nin0)))))))).keep Kq393 (ninS ne327.symm nin0))
              have G403 := (f21_355.keep Kq393 (ninS ne373.symm nin0))
              have G404 := (f22_355.keep Kq393 (ninS ne373.symm nin0))
              have G405 := (f23_355.keep Kq393 (ninS ne373.symm nin0))
              have G406 := (f25_355.keep Kq393 (ninS ne374.symm nin0))
              have G407 := (f26_355.keep Kq393 (ninS ne374.symm nin0))
              have G408 := (f6_355.keep Kq393 (ninS ne328.symm nin0))
              have G409 := (f7_355.keep Kq393 (ninS ne328.symm nin0))
              have G410 := (f8_355.keep Kq393 (ninS ne328.symm nin0))
              have G411 := (f9_355.keep Kq393 (ninS ne328.symm nin0))
              have G412 := (f10_355.keep Kq393 (ninS ne328.symm nin0))
              have G413 := (f11_355.keep Kq393 (ninS ne328.symm nin0))
              have G414 := ((((((f1_10.keep Kq271 nin0).ext E283).keep Kq294 (ninS ne289 nin0)).keep Kq308 (ninS ne289 (ninS ne303 nin0))).keep Kq355 (ninS ne289 (ninS ne303 (ninS ne339 (ninS ne340 (ninS ne341 (ninS ne342 (ninS ne14.symm nin0)))))))).keep Kq393 (ninS ne289 nin0))
              have G415 := ((((((f2_10.keep Kq271 nin0).ext E283).keep Kq294 (ninS ne289 nin0)).keep Kq308 (ninS ne289 (ninS ne303 nin0))).keep Kq355 (ninS ne289 (ninS ne303 (ninS ne339 (ninS ne340 (ninS ne341 (ninS ne342 (ninS ne14.symm nin0)))))))).keep Kq393 (ninS ne289 nin0))
              have G416 := ((((((f3_10.keep Kq271 nin0).ext E283).keep Kq294 (ninS ne289 nin0)).keep Kq308 (ninS ne289 (ninS ne303 nin0))).keep Kq355 (ninS ne289 (ninS ne303 (ninS ne339 (ninS ne340 (ninS ne341 (ninS ne342 (ninS ne14.symm nin0)))))))).keep Kq393 (ninS ne289 nin0))
              have G417 := ((((((f4_10.keep Kq271 nin0).ext E283).keep Kq294 (ninS ne289 nin0)).keep Kq308 (ninS ne289 (ninS ne303 nin0))).keep Kq355 (ninS ne289 (ninS ne303 (ninS ne339 (ninS ne340 (ninS ne341 (ninS ne342 (ninS ne14.symm nin0)))))))).keep Kq393 (ninS ne289 nin0))
              have G418 := (f12_355.keep Kq393 (ninS ne292 nin0))
              have G419 := (f13_355.keep Kq393 (ninS ne292 nin0))
              have G420 := (ad2 (ad2 G361 Kq355 (allS (aw3 f0_308) (allS (ak9 f4_308) (allS (aw3 f9_308) (allS (ak9 f16_308) (allS (bs1 f17_308) (allS (bs1 f18_308) (allS (aw3 G356) all0)))))))) Kq393 (allS (aw3 f0_355) all0))
              have G421 := (f16_355.keep Kq393 (ninS ne301.symm nin0))
              have G422 := (f17_355.keep Kq393 (ninS ne329.symm nin0))
              have G423 := (f18_355.keep Kq393 (ninS ne330.symm nin0))
              have G424 := (f19_355.keep Kq393 (ninS ne331.symm nin0))
              have G425 := ((G365.keep Kq355 (ninS ne284 (ninS ne296 (ninS ne311 (ninS ne312 (ninS ne313 (ninS ne314 (ninS ne15.symm nin0)))))))).keep Kq393 (ninS ne284 nin0))
              have G426 := ((G362.keep Kq355 (ninS ne287 (ninS ne300 (ninS ne323 (ninS ne324 (ninS ne325 (ninS ne326 (ninS am7.symm nin0)))))))).keep Kq393 (ninS ne287 nin0))
              refine az1 X393 hx hZ (y := (⟨z_s1, "enter", z_s7⟩ : MethodName)) (z := (⟨z_s1, "enter", z_s7⟩ : MethodName)) hown (z_w hw 40 rfl) (z_w hw 41 rfl) (notFace_of_selects (args := #[]) (mvT hZ (z_w hw 43 rfl))) (z_w hw 43 rfl) (z_w hw 42 rfl) (z_w hw 28 rfl) (z_w hw 44 rfl) f0_393 (cp5 l Z a0 hw [] b283 b3_10 b6_308 b13_355 (((List.replicate 16 Value.null).set 0 (.ref b6_308)).set 1 (.ref b13_355)) (nar .byte (v2.toInt8.toInt32)) (ap4 false (List.replicate 16 Value.null) (ah0 (ac0 (nar .byte (ca.toInt8.toInt32)))) b3_8) (ai3 false (List.replicate 16 (0 : Int32)) (ah0 (ac0 (nar .byte (ca.toInt8.toInt32)))) (0 : Int32)) (ap6 false (List.replicate 16 (0 : Int32)) (ah0 (0 : Int32)) (ac0 (nar .byte (ca.toInt8.toInt32)))) (1 : Int32) (decide ((nar .byte (ca.toInt8.toInt32)) = (nar .byte (v2.toInt8.toInt32)))) j394 b3_8 (nar .byte (ca.toInt8.toInt32)) b2_294 b2_9_308 b2_26_355 b3_8 (ax0 false (0 : Int32)) b2_4_9_308 b7_4_9_308 b15_4_9_308 (ac5 false (0 : Int32)) (ac0 (nar .byte (ca.toInt8.toInt32))) b1_4_10 b1_4_8 ab0 T393.heap n0 (Nat.le_trans Z0 K393.1) f0_393 G396 G397 G398 G399 G400 G401 f1_393 f2_393 f3_393 G402 G403 G404 G405 G406 G407 G408 G409 G410 G411 G412 G413 G414 G415 G416 G417 G418 G419 G420 G421 G422 G423 G424 G425 G426 bw6 cu6 cp4 cs2 cv3 co0 ca3 ca5 ne373 ne374 ne328 ne329 ne330 ne331 ne289.symm bu9 ne379.symm ne377.symm ne391.symm ne363.symm ne382.symm ne380.symm ne378.symm ne392.symm ne364.symm ne383.symm bs3 bt3 bl7 ne339.symm bc2 bj6 ne340.symm bk6 ne341.symm ne342.symm ne327 ne292.symm ne301 ne284.symm ne287.symm ne389.symm ne387.symm ne375.symm ne366.symm ne371.symm ne390.symm ne388.symm ne376.symm ne367.symm ne372.symm ab7.symm ne351.symm ne333.symm ne311.symm ne323.symm an8.symm ne352.symm ne334.symm ne312.symm ne324.symm ak6.symm ne353.symm ne335.symm ne313.symm ne325.symm av7.symm ne354.symm ne336.symm ne314.symm ne326.symm ne338 ne14.symm ne303 bv4 ne12.symm hnz (by simp only [ap3, ae3, aq3, List.length_set, List.length_replicate]) (by simp only [ap3, ae3, aq3, List.length_set, List.length_replicate]) (by simp only [ap3, ae3, aq3, List.length_set, List.length_replicate]) ce4 hp394 rfl rfl (by rfl)) 0 rfl hml' (argsL := [(.ref b3_10)]) (rest := []) (lenOf ai1 rfl) (hb hby at_196) (fun r395 T395 L395 X395 hQ395 => ?_)
              obtain ⟨rfl, Nq395, Kq395, f0_395, f1_395, f2_395, f3_395, f4_395, f5_395, f6_395, f7_395, f8_395, f9_395, f10_395, f11_395, f12_395, f13_395, f14_395, f15_395, f16_395, f17_395, f18_395, f19_395, f20_395, f21_395, f22_395, f23_395, f24_395, f25_395⟩ := hQ395
              have N395 := Fr.app N393 Nq395
              have K395 := Keep.trans K393 Kq395 (allS (Or.inr bi8) (allS (Or.inr cp8) (allS (Or.inr cc5) (allS (Or.inr cm3) (allS (Or.inr co4) (allS (Or.inr cr1) (allS (Or.inr cw3) (allS (Or.inr ck7) all0))))))))
              show aa0 p e below P (T395.setTop (mkF m 199 #[.val (.int p0), .val (.int p1), .val (.int p2), .val (.int p3), .val (.int p4), .val (.int cr), .val (.int ca), .val (.int v2), .val (.int (((p4.toUInt32 >>> ((2 : Int32) &&& 31).toUInt32).toInt32) &&& (3 : Int32))), .val (.int v6), .val (.ref b3_8), .val (.ref b3_10), .val (.ref b3_8), .val (.ref b3_271), .val (.ref b283), .unset, .unset, .unset] []))
              refine aw1 X395 hx (hb hby at_199) rfl rfl ?_
              refine az1 X395 hx hZ (y := (⟨z_s1, "leave", "()V"⟩ : MethodName)) (z := (⟨z_s1, "leave", "()V"⟩ : MethodName)) hown (z_w hw 119 rfl) (z_w hw 120 rfl) (notFace_of_selects (args := #[]) (mvT hZ (z_w hw 122 rfl))) (z_w hw 122 rfl) (z_w hw 121 rfl) (z_w hw 28 rfl) (z_w hw 123 rfl) f0_395 (az8 l Z a0 hw [] b283 b2_294 T395.heap n0 (Nat.le_trans Z0 K395.1) f0_395 f5_395 f6_395 f7_395 bw6) 0 rfl hml' (argsL := []) (rest := []) (lenOf as2 rfl) (hb hby at_201) (fun r427 T427 L427 X427 hQ427 => ?_)
              obtain ⟨rfl, Nq427, Kq427, f0_427, f1_427, f2_427, f3_427⟩ := hQ427
              have N427 := Fr.app N395 Nq427
              have K427 := Keep.trans K395 Kq427 (allS (Or.inr bi8) all0)
              show aa0 p e below P (T427.setTop (mkF m 204 #[.val (.int p0), .val (.int p1), .val (.int p2), .val (.int p3), .val (.int p4), .val (.int cr), .val (.int ca), .val (.int v2), .val (.int (((p4.toUInt32 >>> ((2 : Int32) &&& 31).toUInt32).toInt32) &&& (3 : Int32))), .val (.int v6), .val (.ref b3_8), .val (.ref b3_10), .val (.ref b3_8), .val (.ref b3_271), .val (.ref b283), .unset, .unset, .unset] []))
              refine aw1 X427 hx (hb hby at_204) rfl rfl ?_
              refine aw1 X427 hx (hb hby at_206) rfl rfl ?_
              obtain ⟨hx428, hy428⟩ := ew0 (sb := b3_10) (by simp only [ap3, ae3, aq3, List.length_set, List.length_replicate]) (bs4 _) hp394
              have G430 := ((G396.keep Kq395).keep Kq427)
              have G431 := (f1_395.keep Kq427)
              have G432 := (f2_395.keep Kq427)
              have G433 := (f3_395.keep Kq427)
              have G434 := ((G401.keep Kq395).keep Kq427)
              have G435 := ((G402.keep Kq395 (ninS ne327.symm (ninS ne389 (ninS ne390 (ninS ab7 (ninS an8 (ninS ak6 (ninS av7 (ninS ne338.symm nin0))))))))).keep Kq427 (ninS ne327.symm nin0))
              have G436 := (f8_395.keep Kq427 (ninS ne373.symm nin0))
              have G437 := (f9_395.keep Kq427 (ninS ne373.symm nin0))
              have G438 := (f10_395.keep Kq427 (ninS ne373.symm nin0))
              have G439 := (f11_395.keep Kq427 (ninS ne374.symm nin0))
              have G440 := (f12_395.keep Kq427 (ninS ne374.symm nin0))
              have G441 := (f13_395.keep Kq427 (ninS ne328.symm nin0))
              have G442 := (f14_395.keep Kq427 (ninS ne328.symm nin0))
              have G443 := (f15_395.keep Kq427 (ninS ne328.symm nin0))
              have G444 := (f16_395.keep Kq427 (ninS ne328.symm nin0))
              have G445 := (f17_395.keep Kq427 (ninS ne328.symm nin0))
              have G446 := (f18_395.keep Kq427 (ninS ne328.symm nin0))
              have G447 := (((f14_355.keep Kq393 (ninS ne292 nin0)).keep Kq395 (ninS ne292 (ninS ne387 (ninS ne388 (ninS ne351 (ninS ne352 (ninS ne353 (ninS ne354 (ninS ne14 nin0))))))))).keep Kq427 (ninS ne292 nin0))
              have G448 := (((f15_355.keep Kq393 (ninS ne292 nin0)).keep Kq395 (ninS ne292 (ninS ne387 (ninS ne388 (ninS ne351 (ninS ne352 (ninS ne353 (ninS ne354 (ninS ne14 nin0))))))))).keep Kq427 (ninS ne292 nin0))
              have G449 := ((G421.keep Kq395 (ninS ne301.symm (ninS ne375 (ninS ne376 (ninS ne333 (ninS ne334 (ninS ne335 (ninS ne336 (ninS ne303.symm nin0))))))))).keep Kq427 (ninS ne301.symm nin0))
              have G450 := (f23_395.keep Kq427 (ninS ne329.symm nin0))
              have G451 := (f24_395.keep Kq427 (ninS ne330.symm nin0))
              refine az1 X427 hx hZ (y := (⟨z_s1, "enter", z_s7⟩ : MethodName)) (z := (⟨z_s1, "enter", z_s7⟩ : MethodName)) hown (z_w hw 40 rfl) (z_w hw 41 rfl) (notFace_of_selects (args := #[]) (mvT hZ (z_w hw 43 rfl))) (z_w hw 43 rfl) (z_w hw 42 rfl) (z_w hw 28 rfl) (z_w hw 44 rfl) f0_427 (eu4 l Z a0 hw [] b283 b3_8 b6_308 b13_355 (((List.replicate 16 Value.null).set 0 (.ref b6_308)).set 1 (.ref b13_355)) (nar .byte (ca.toInt8.toInt32)) (ap4 (decide ((nar .byte (ca.toInt8.toInt32)) = (nar .byte (v2.toInt8.toInt32)))) (ap4 false (List.replicate 16 Value.null) (ah0 (ac0 (nar .byte (ca.toInt8.toInt32)))) b3_8) (ah0 j394) b3_10) (ai3 (decide ((nar .byte (ca.toInt8.toInt32)) = (nar .byte (v2.toInt8.toInt32)))) (ai3 false (List.replicate 16 (0 : Int32)) (ah0 (ac0 (nar .byte (ca.toInt8.toInt32)))) (0 : Int32)) (ah0 j394) (1 : Int32)) (if (nar .byte (ca.toInt8.toInt32)) = (nar .byte (v2.toInt8.toInt32)) then (2 : Int32) else (1 : Int32)) b3_10 b2_294 b2_9_308 b2_26_355 b3_10 (ax0 (decide ((nar .byte (ca.toInt8.toInt32)) = (nar .byte (v2.toInt8.toInt32)))) (1 : Int32)) b2_4_9_308 b7_4_9_308 b15_4_9_308 (ac5 (decide ((nar .byte (ca.toInt8.toInt32)) = (nar .byte (v2.toInt8.toInt32)))) (ac5 false (0 : Int32))) j394 T427.heap n0 (Nat.le_trans Z0 K427.1) f0_427 G430 G431 G432 G433 G434 f1_427 f2_427 f3_427 G435 G436 G437 G438 G439 G440 G441 G442 G443 G444 G445 G446 G447 G448 G449 G450 G451 bw6 cu6 cp4 cs2 co0 ne373 ne374 ne328 ne330 bu9 ne379.symm ne391.symm ne380.symm ne392.symm bt3 ne327 ne292.symm ne301 ne329 ne389.symm ne387.symm ne375.symm ne377.symm ne390.symm ne388.symm ne376.symm ne378.symm ab7.symm ne351.symm ne333.symm bs3 ak6.symm ne353.symm ne335.symm bc2.symm ne14 (by simp only [ap3, ae3, aq3, List.length_set, List.length_replicate]) (by simp only [ap3, ae3, aq3, List.length_set, List.length_replicate]) hx428 hy428 rfl rfl (by rfl)) 0 rfl hml' (argsL := [(.ref b3_8)]) (rest := []) (lenOf ai1 rfl) (hb hby at_208) (fun r429 T429 L429 X429 hQ429 => ?_)
              obtain ⟨rfl, Nq429, Kq429, f0_429, f1_429, f2_429, f3_429, f4_429, f5_429, f6_429, f7_429, f8_429, f9_429, f10_429, f11_429, f12_429, f13_429, f14_429, f15_429, f16_429, f17_429, f18_429⟩ := hQ429
              have N429 := Fr.app N427 Nq429
              have K429 := Keep.trans K427 Kq429 (allS (Or.inr bi8) (allS (Or.inr cp8) (allS (Or.inr cc5) (allS (Or.inr cm3) (allS (Or.inr cr1) all0)))))
              show aa0 p e below P (T429.setTop (mkF m 211 #[.val (.int p0), .val (.int p1), .val (.int p2), .val (.int p3), .val (.int p4), .val (.int cr), .val (.int ca), .val (.int v2), .val (.int (((p4.toUInt32 >>> ((2 : Int32) &&& 31).toUInt32).toInt32) &&& (3 : Int32))), .val (.int v6), .val (.ref b3_8), .val (.ref b3_10), .val (.ref b3_8), .val (.ref b3_271), .val (.ref b283), .unset, .unset, .unset] []))
              refine aw1 X429 hx (hb hby at_211) rfl rfl ?_
              have G453 := (G449.keep Kq429 (ninS ne301.symm (ninS ne375 (ninS ne376 (ninS ne333 (ninS ne335 nin0))))))
              refine az1 X429 hx hZ (y := (⟨z_s1, "index", "()I"⟩ : MethodName)) (z := (⟨z_s1, "index", "()I"⟩ : MethodName)) hown (z_w hw 132 rfl) (z_w hw 133 rfl) (notFace_of_selects (args := #[]) (mvT hZ (z_w hw 135 rfl))) (z_w hw 135 rfl) (z_w hw 134 rfl) (z_w hw 28 rfl) (z_w hw 136 rfl) f0_429 (ck0 l Z a0 hw [] b283 b13_355 (((List.replicate 16 Value.null).set 0 (.ref b6_308)).set 1 (.ref b13_355)) b2_294 (ax0 true (if (nar .byte (ca.toInt8.toInt32)) = (nar .byte (v2.toInt8.toInt32)) then (2 : Int32) else (1 : Int32))) T429.heap n0 (Nat.le_trans Z0 K429.1) f4_429 f5_429 f9_429 G453 rfl) 0 rfl hml' (argsL := []) (rest := []) (lenOf au4 rfl) (hb hby at_213) (fun r452 T452 L452 X452 hQ452 => ?_)
              obtain ⟨rfl, Nq452, eq452⟩ := hQ452
              have N452 := Fr.app N429 Nq452
              show aa0 p e below P (T452.setTop (mkF m 216 #[.val (.int p0), .val (.int p1), .val (.int p2), .val (.int p3), .val (.int p4), .val (.int cr), .val (.int ca), .val (.int v2), .val (.int (((p4.toUInt32 >>> ((2 : Int32) &&& 31).toUInt32).toInt32) &&& (3 : Int32))), .val (.int v6), .val (.ref b3_8), .val (.ref b3_10), .val (.ref b3_8), .val (.ref b3_271), .val (.ref b283), .unset, .unset, .unset] [(.int (ax0 true (if (nar .byte (ca.toInt8.toInt32)) = (nar .byte (v2.toInt8.toInt32)) then (2 : Int32) else (1 : Int32))))]))
              refine as4 X452 hx (hb hby at_216) (l' := #[.val (.int p0), .val (.int p1), .val (.int p2), .val (.int p3), .val (.int p4), .val (.int cr), .val (.int ca), .val (.int v2), .val (.int (((p4.toUInt32 >>> ((2 : Int32) &&& 31).toUInt32).toInt32) &&& (3 : Int32))), .val (.int v6), .val (.ref b3_8), .val (.ref b3_10), .val (.ref b3_8), .val (.ref b3_271), .val (.ref b283), .val (.int (ax0 true (if (nar .byte (ca.toInt8.toInt32)) = (nar .byte (v2.toInt8.toInt32)) then (2 : Int32) else (1 : Int32)))), .unset, .unset]) rfl ?_
              refine aw1 X452 hx (hb hby at_218) rfl rfl ?_
              refine az1 X452 hx hZ (y := (⟨z_s1, "leave", "()V"⟩ : MethodName)) (z := (⟨z_s1, "leave", "()V"⟩ : MethodName)) hown (z_w hw 119 rfl) (z_w hw 120 rfl) (notFace_of_selects (args := #[]) (mvT hZ (z_w hw 122 rfl))) (z_w hw 122 rfl) (z_w hw 121 rfl) (z_w hw 28 rfl) (z_w hw 123 rfl) f0_429 (az8 l Z a0 hw [] b283 b2_294 T429.heap n0 (Nat.le_trans Z0 K429.1) f0_429 f4_429 f5_429 f6_429 bw6) 0 eq452 hml' (argsL := []) (rest := []) (lenOf as2 rfl) (hb hby at_220) (fun r454 T454 L454 X454 hQ454 => ?_)
              obtain ⟨rfl, Nq454, Kq454, f0_454, f1_454, f2_454, f3_454⟩ := hQ454
              have N454 := Fr.app N452 Nq454
              have K454 := Keep.trans K429 Kq454 (allS (Or.inr bi8) all0)
              show aa0 p e below P (T454.setTop (mkF m 223 #[.val (.int p0), .val (.int p1), .val (.int p2), .val (.int p3), .val (.int p4), .val (.int cr), .val (.int ca), .val (.int v2), .val (.int (((p4.toUInt32 >>> ((2 : Int32) &&& 31).toUInt32).toInt32) &&& (3 : Int32))), .val (.int v6), .val (.ref b3_8), .val (.ref b3_10), .val (.ref b3_8), .val (.ref b3_271), .val (.ref b283), .val (.int (ax0 true (if (nar .byte (ca.toInt8.toInt32)) = (nar .byte (v2.toInt8.toInt32)) then (2 : Int32) else (1 : Int32)))), .unset, .unset] []))
              refine aw1 X454 hx (hb hby at_223) rfl rfl ?_
              have G456 := ((((((f8_308.keep Kq355 (ninS ne327.symm (ninS ne332.symm (ninS ab7 (ninS an8 (ninS ak6 (ninS av7 (ninS ne350.symm nin0)))))))).keep Kq393 (ninS ne327.symm nin0)).keep Kq395 (ninS ne327.symm (ninS ne389 (ninS ne390 (ninS ab7 (ninS an8 (ninS ak6 (ninS av7 (ninS ne338.symm nin0))))))))).keep Kq427 (ninS ne327.symm nin0)).keep Kq429 (ninS ne327.symm (ninS ne389 (ninS ne390 (ninS ab7 (ninS ak6 nin0)))))).keep Kq454 (ninS ne327.symm nin0))
              have G457 := (G453.keep Kq454 (ninS ne301.symm nin0))
              refine az1 X454 hx hZ (y := (⟨z_s1, "index", "()I"⟩ : MethodName)) (z := (⟨z_s1, "index", "()I"⟩ : MethodName)) hown (z_w hw 132 rfl) (z_w hw 133 rfl) (notFace_of_selects (args := #[]) (mvT hZ (z_w hw 135 rfl))) (z_w hw 135 rfl) (z_w hw 134 rfl) (z_w hw 28 rfl) (z_w hw 136 rfl) f0_454 (cl0 l Z a0 hw [] b283 b6_308 (((List.replicate 16 Value.null).set 0 (.ref b6_308)).set 1 (.ref b13_355)) b2_294 (1 : Int32) T454.heap n0 (Nat.le_trans Z0 K454.1) f1_454 f2_454 G456 G457 rfl) 0 rfl hml' (argsL := []) (rest := []) (lenOf au4 rfl) (hb hby at_225) (fun r455 T455 L455 X455 hQ455 => ?_)
              obtain ⟨rfl, Nq455, eq455⟩ := hQ455
              have N455 := Fr.app N454 Nq455
              show aa0 p e below P (T455.setTop (mkF m 228 #[.val (.int p0), .val (.int p1), .val (.int p2), .val (.int p3), .val (.int p4), .val (.int cr), .val (.int ca), .val (.int v2), .val (.int (((p4.toUInt32 >>> ((2 : Int32) &&& 31).toUInt32).toInt32) &&& (3 : Int32))), .val (.int v6), .val (.ref b3_8), .val (.ref b3_10), .val (.ref b3_8), .val (.ref b3_271), .val (.ref b283), .val (.int (ax0 true (if (nar .byte (ca.toInt8.toInt32)) = (nar .byte (v2.toInt8.toInt32)) then (2 : Int32) else (1 : Int32)))), .unset, .unset] [(.int (1 : Int32))]))
              refine as4 X455 hx (hb hby at_228) (l' := #[.val (.int p0), .val (.int p1), .val (.int p2), .val (.int p3), .val (.int p4), .val (.int cr), .val (.int ca), .val (.int v2), .val (.int (((p4.toUInt32 >>> ((2 : Int32) &&& 31).toUInt32).toInt32) &&& (3 : Int32))), .val (.int v6), .val (.ref b3_8), .val (.ref b3_10), .val (.ref b3_8), .val (.ref b3_271), .val (.ref b283), .val (.int (ax0 true (if (nar .byte (ca.toInt8.toInt32)) = (nar .byte (v2.toInt8.toInt32)) then (2 : Int32) else (1 : Int32)))), .val (.int (1 : Int32)), .unset]) rfl ?_
              refine az0 X455 hx (hb hby at_230) (z := (1 : Int32)) rfl ?_
              refine ay1 X455 hx (hb hby at_231) rfl ?_
              refine ay1 X455 hx (hb hby at_233) rfl ?_
              have J460 : ∀ v459 : Int32, v459 = (if ca = v6 then (1 : Int32) else (0 : Int32)) → aa0 p e below P (T455.setTop (mkF m 243 #[.val (.int p0), .val (.int p1), .val (.int p2), .val (.int p3), .val (.int p4), .val (.int cr), .val (.int ca), .val (.int v2), .val (.int (((p4.toUInt32 >>> ((2 : Int32) &&& 31).toUInt32).toInt32) &&& (3 : Int32))), .val (.int v6), .val (.ref b3_8), .val (.ref b3_10), .val (.ref b3_8), .val (.ref b3_271), .val (.ref b283), .val (.int (ax0 true (if (nar .byte (ca.toInt8.toInt32)) = (nar .byte (v2.toInt8.toInt32)) then (2 : Int32) else (1 : Int32)))), .val (.int (1 : Int32)), .unset] [(.int v459), (.int (1 : Int32))])) := by
                intro v459 e_v459
                refine ad6 X455 hx (hb hby at_243) (z := ((1 : Int32) + v459)) rfl ?_
                refine ay1 X455 hx (hb hby at_244) rfl ?_
                refine ay1 X455 hx (hb hby at_246) rfl ?_
                have J463 : ∀ v462 : Int32, v462 = (if v2 = v6 then (1 : Int32) else (0 : Int32)) → aa0 p e below P (T455.setTop (mkF m 256 #[.val (.int p0), .val (.int p1), .val (.int p2), .val (.int p3), .val (.int p4), .val (.int cr), .val (.int ca), .val (.int v2), .val (.int (((p4.toUInt32 >>> ((2 : Int32) &&& 31).toUInt32).toInt32) &&& (3 : Int32))), .val (.int v6), .val (.ref b3_8), .val (.ref b3_10), .val (.ref b3_8), .val (.ref b3_271), .val (.ref b283), .val (.int (ax0 true (if (nar .byte (ca.toInt8.toInt32)) = (nar .byte (v2.toInt8.toInt32)) then (2 : Int32) else (1 : Int32)))), .val (.int (1 : Int32)), .unset] [(.int v462), (.int ((1 : Int32) + v459))])) := by
                  intro v462 e_v462
                  refine ad6 X455 hx (hb hby at_256) (z := (((1 : Int32) + v459) + v462)) rfl ?_
                  refine as4 X455 hx (hb hby at_257) (l' := #[.val (.int p0), .val (.int p1), .val (.int p2), .val (.int p3), .val (.int p4), .val (.int cr), .val (.int ca), .val (.int v2), .val (.int (((p4.toUInt32 >>> ((2 : Int32) &&& 31).toUInt32).toInt32) &&& (3 : Int32))), .val (.int v6), .val (.ref b3_8), .val (.ref b3_10), .val (.ref b3_8), .val (.ref b3_271), .val (.ref b283), .val (.int (ax0 true (if (nar .byte (ca.toInt8.toInt32)) = (nar .byte (v2.toInt8.toInt32)) then (2 : Int32) else (1 : Int32)))), .val (.int (1 : Int32)), .val (.int (((1 : Int32) + v459) + v462))]) rfl ?_
                  refine ay1 X455 hx (hb hby at_259) rfl ?_
                  refine ay1 X455 hx (hb hby at_261) rfl ?_
                  have hd464 : (ax0 true (if (nar .byte (ca.toInt8.toInt32)) = (nar .byte (v2.toInt8.toInt32)) then (2 : Int32) else (1 : Int32))) = (((1 : Int32) + v459) + v462) := by rw [e_v459, e_v462]; exact ed1 Ha Hb hc270
                  refine a4 X455 hx (hb hby at_263) (teq hd464).2 ?_
                  refine ay1 X455 hx (hb hby at_266) rfl ?_
                  refine az0 X455 hx (hb hby at_268) (z := (1 : Int32)) rfl ?_
                  refine a4 X455 hx (hb hby at_269) (teq (by decide : (1 : Int32) = (1 : Int32))).2 ?_
                  refine az0 X455 hx (hb hby at_272) (z := (1 : Int32)) rfl ?_
                  refine ao4 X455 hx (pc' := 277) (hb hby at_273) ?_
                  exact bd1 X455 hx hlk hP (t := .boolean) (by simp) hrt (hb hby at_277) (by decide) (by decide) ⟨rfl, N455⟩
                by_cases hc461 : v2 = v6
                · refine a4 X455 hx (hb hby at_248) (teq hc461).2 ?_
                  refine az0 X455 hx (hb hby at_251) (z := (1 : Int32)) rfl ?_
                  refine ao4 X455 hx (pc' := 256) (hb hby at_252) ?_
                  exact J463 _ ((if_pos hc461).trans (rfl)).symm
                · refine au3 X455 hx (pc' := 255) (hb hby at_248) (feq hc461).2 ?_
                  refine az0 X455 hx (hb hby at_255) (z := (0 : Int32)) rfl ?_
                  exact J463 _ ((if_neg hc461).trans (rfl)).symm
              by_cases hc458 : ca = v6
              · refine a4 X455 hx (hb hby at_235) (teq hc458).2 ?_
                refine az0 X455 hx (hb hby at_238) (z := (1 : Int32)) rfl ?_
                refine ao4 X455 hx (pc' := 243) (hb hby at_239) ?_
                exact J460 _ ((if_pos hc458).trans (rfl)).symm
              · refine au3 X455 hx (pc' := 242) (hb hby at_235) (feq hc458).2 ?_
                refine az0 X455 hx (hb hby at_242) (z := (0 : Int32)) rfl ?_
                exact J460 _ ((if_neg hc458).trans (rfl)).symm
            · refine au3 X10 hx (pc' := 150) (hb hby at_140) (feq hc270).2 ?_
              exact Jn16
        refine ay1 X10 hx (hb hby at_106) rfl ?_
        refine bu4 X10 hx (hb hby at_108) (z := (16 : Int32)) rfl ?_
        refine az7 X10 hx (hb hby at_110) (z := (p4 &&& (16 : Int32))) rfl ?_
        by_cases hc465 : (p4 &&& (16 : Int32)) = (0 : Int32)
        · refine al7 X10 hx (pc' := 128) (hb hby at_111) ((if0 _ _).trans (teq hc465).1) ?_
          exact Jn268
        · refine aq7 X10 hx (hb hby at_111) ((if0 _ _).trans (feq hc465).1) ?_
          refine ay1 X10 hx (hb hby at_114) rfl ?_
          refine ay1 X10 hx (hb hby at_116) rfl ?_
          by_cases hc466 : v6 = v2
          · refine a4 X10 hx (hb hby at_118) (teq hc466).2 ?_
            refine aw1 X10 hx (hb hby at_121) rfl rfl ?_
            refine ao6 X10 hx (hb hby at_123) rfl (l' := #[.val (.int p0), .val (.int p1), .val (.int p2), .val (.int p3), .val (.int p4), .val (.int cr), .val (.int ca), .val (.int v2), .val (.int (((p4.toUInt32 >>> ((2 : Int32) &&& 31).toUInt32).toInt32) &&& (3 : Int32))), .val (.int v6), .val (.ref b3_8), .val (.ref b3_10), .val (.ref b3_10), .unset, .unset, .unset, .unset, .unset]) rfl ?_
            refine ao4 X10 hx (pc' := 157) (hb hby at_125) ?_
            refine ay1 X10 hx (hb hby at_157) rfl ?_
            have G468 := (ad2 G11 Kq10 all0)
            refine as5 X10 hx hZ (y := (⟨z_s2, "valueOf", "(C)Ljava/lang/String;"⟩ : MethodName)) hown (z_w hw 0 rfl) (z_w hw 1 rfl) (z_w hw 2 rfl) (z_w hw 3 rfl) (bd5 l Z a0 hw [] cr ab0 T10.heap n0 (Nat.le_trans Z0 K10.1) G468 hnz (bp3 Hr)) 0 rfl hml' (argsL := [(.int cr)]) (rest := []) (lenOf aj3 rfl) (hb hby at_159) (fun r467 T467 L467 X467 hQ467 => ?_)
            obtain ⟨b3_467, b1_4_467, rfl, Nq467, Kq467, bv9, ej6, bx6, ee5, eo1, f0_467, f1_467, f2_467, f3_467, f4_467, f5_467⟩ := hQ467
            have N467 := Fr.app N10 Nq467
            have ne469 := z_nc f5_10.lt bv9
            have ne470 := z_nc f5_10.lt bx6
            have G471 := (f5_8.keep Kq10 nin0)
            have ne472 := z_nc G471.lt bv9
            have ne473 := z_nc G471.lt bx6
            have ne474 := z_nc f0_10.lt bv9
            have ne475 := z_nc f0_10.lt bx6
            have G476 := (f0_8.keep Kq10)
            have ne477 := z_nc G476.lt bv9
            have ne478 := z_nc G476.lt bx6
            have ec7 := Nat.le_trans K10.1 bv9
            have et5 := Nat.le_trans K10.1 bx6
            have K467 := Keep.trans K10 Kq467 all0
            show aa0 p e below P (T467.setTop (mkF m 162 #[.val (.int p0), .val (.int p1), .val (.int p2), .val (.int p3), .val (.int p4), .val (.int cr), .val (.int ca), .val (.int v2), .val (.int (((p4.toUInt32 >>> ((2 : Int32) &&& 31).toUInt32).toInt32) &&& (3 : Int32))), .val (.int v6), .val (.ref b3_8), .val (.ref b3_10), .val (.ref b3_10), .unset, .unset, .unset, .unset, .unset] [(.ref b3_467)]))
            refine ao6 X467 hx (hb hby at_162) rfl (l' := #[.val (.int p0), .val (.int p1), .val (.int p2), .val (.int p3), .val (.int p4), .val (.int cr), .val (.int ca), .val (.int v2), .val (.int (((p4.toUInt32 >>> ((2 : Int32) &&& 31).toUInt32).toInt32) &&& (3 : Int32))), .val (.int v6), .val (.ref b3_8), .val (.ref b3_10), .val (.ref b3_10), .val (.ref b3_467), .unset, .unset, .unset, .unset]) rfl ?_
            obtain ⟨T479, h479, X479, e479, E479, A479, D479, -, st479⟩ := newO X467 hx hZ hown (z_w hw 26 rfl) (z_w hw 27 rfl) (z_w hw 28 rfl) rfl (g := (mkF m 164 #[.val (.int p0), .val (.int p1), .val (.int p2), .val (.int p3), .val (.int p4), .val (.int cr), .val (.int ca), .val (.int v2), .val (.int (((p4.toUInt32 >>> ((2 : Int32) &&& 31).toUInt32).toInt32) &&& (3 : Int32))), .val (.int v6), .val (.ref b3_8), .val (.ref b3_10), .val (.ref b3_10), .val (.ref b3_467), .unset, .unset, .unset, .unset] [])) rfl (hb hby at_164) (by decide) (by decide)
            obtain ⟨b479, g479⟩ : ∃ z, z = T467.heap.size := ⟨_, rfl⟩
            rw [← g479] at A479 D479 st479
            have G481 := (f5_10.keep Kq467 nin0)
            have ne480 := z_nb G481.lt g479
            have ne482 := z_nb f5_467.lt g479
            have G484 := (G471.keep Kq467 nin0)
            have ne483 := z_nb G484.lt g479
            have G486 := (f0_10.keep Kq467)
            have ne485 := z_nb G486.lt g479
            have ne487 := z_nb f0_467.lt g479
            have G489 := (G476.keep Kq467)
            have ne488 := z_nb G489.lt g479
            have by6 : n0 ≤ b479 := Nat.le_trans (Nat.le_trans Z0 K467.1) (Nat.le_of_eq g479.symm)
            have bj8 : h0.size ≤ b479 := Nat.le_trans K467.1 (Nat.le_of_eq g479.symm)
            have K479 := Keep.ext K467 E479
            have dl0 : Fld Z h479 b479 z_s1 "levels" z_s4 .null := D479 (Or.inl (z_w hw 36 rfl)) (ty := (.array (.object z_s3))) (by decide)
            have do4 : Fld Z h479 b479 z_s1 "path" "[C" .null := D479 (Or.inl (z_w hw 39 rfl)) (ty := (.array .char)) (by decide)
            have dh1 : Fld Z h479 b479 z_s1 "depth" "I" (.int (0 : Int32)) := D479 (Or.inl (z_w hw 46 rfl)) (ty := .int) (by decide)
            have ch9 : Fld Z h479 b479 z_s1 "written" "I" (.int (0 : Int32)) := D479 (Or.inl (z_w hw 87 rfl)) (ty := .int) (by decide)
            refine an1 (fun _ => st479 _) ?_
            show aa0 p e below P (T479.setTop (mkF m 167 #[.val (.int p0), .val (.int p1), .val (.int p2), .val (.int p3), .val (.int p4), .val (.int cr), .val (.int ca), .val (.int v2), .val (.int (((p4.toUInt32 >>> ((2 : Int32) &&& 31).toUInt32).toInt32) &&& (3 : Int32))), .val (.int v6), .val (.ref b3_8), .val (.ref b3_10), .val (.ref b3_10), .val (.ref b3_467), .unset, .unset, .unset, .unset] [(.ref b479)]))
            refine bi0 X479 hx (hb hby at_167) rfl ?_
            refine cb0 X479 hx hZ (y := (⟨z_s1, "<init>", "()V"⟩ : MethodName)) hown (z_w hw 29 rfl) (z_w hw 30 rfl) (z_w hw 28 rfl) (z_w hw 31 rfl) (ce2 l Z a0 hw [] b479  h479 n0 (Nat.le_trans Z0 K479.1) A479 dl0 do4 dh1 ch9 by6) 1 e479 hml' (a := b479) (argsL := []) (rest := [(.ref b479)]) (lenOf as2 rfl) (hb hby at_168) (fun r490 T490 L490 X490 hQ490 => ?_)
            obtain ⟨b2_490, rfl, Nq490, Kq490, bq2, cq8, f0_490, f1_490, f2_490, f3_490, f4_490⟩ := hQ490
            have N490 := Fr.app N467 Nq490
            have G491 := (G481.ext E479)
            have ne492 := z_nc G491.lt bq2
            have G493 := (f5_467.ext E479)
            have ne494 := z_nc G493.lt bq2
            have G495 := (G484.ext E479)
            have ne496 := z_nc G495.lt bq2
            have G497 := (G486.ext E479)
            have ne498 := z_nc G497.lt bq2
            have G499 := (f0_467.ext E479)
            have ne500 := z_nc G499.lt bq2
            have G501 := (G489.ext E479)
            have ne502 := z_nc G501.lt bq2
            have ne503 := z_nc A479.lt bq2
            have db0 := Nat.le_trans K479.1 bq2
            have K490 := Keep.trans K479 Kq490 (allS (Or.inr bj8) all0)
            show aa0 p e below P (T490.setTop (mkF m 171 #[.val (.int p0), .val (.int p1), .val (.int p2), .val (.int p3), .val (.int p4), .val (.int cr), .val (.int ca), .val (.int v2), .val (.int (((p4.toUInt32 >>> ((2 : Int32) &&& 31).toUInt32).toInt32) &&& (3 : Int32))), .val (.int v6), .val (.ref b3_8), .val (.ref b3_10), .val (.ref b3_10), .val (.ref b3_467), .unset, .unset, .unset, .unset] [(.ref b479)]))
            refine ao6 X490 hx (hb hby at_171) rfl (l' := #[.val (.int p0), .val (.int p1), .val (.int p2), .val (.int p3), .val (.int p4), .val (.int cr), .val (.int ca), .val (.int v2), .val (.int (((p4.toUInt32 >>> ((2 : Int32) &&& 31).toUInt32).toInt32) &&& (3 : Int32))), .val (.int v6), .val (.ref b3_8), .val (.ref b3_10), .val (.ref b3_10), .val (.ref b3_467), .val (.ref b479), .unset, .unset, .unset]) rfl ?_
            refine aw1 X490 hx (hb hby at_173) rfl rfl ?_
            refine aw1 X490 hx (hb hby at_175) rfl rfl ?_
            refine az1 X490 hx hZ (y := (⟨z_s1, "enter", z_s7⟩ : MethodName)) (z := (⟨z_s1, "enter", z_s7⟩ : MethodName)) hown (z_w hw 40 rfl) (z_w hw 41 rfl) (notFace_of_selects (args := #[]) (mvT hZ (z_w hw 43 rfl))) (z_w hw 43 rfl) (z_w hw 42 rfl) (z_w hw 28 rfl) (z_w hw 44 rfl) f0_490 (cg2 l Z a0 hw [] b479 b3_467 b2_490 T490.heap n0 (Nat.le_trans Z0 K490.1) f0_490 f1_490 f2_490 f3_490 f4_490 by6 cq8 ne503) 0 rfl hml' (argsL := [(.ref b3_467)]) (rest := []) (lenOf ai1 rfl) (hb hby at_177) (fun r504 T504 L504 X504 hQ504 => ?_)
            obtain ⟨b6_504, b2_9_504, b2_4_9_504, b7_4_9_504, b15_4_9_504, rfl, Nq504, Kq504, bn1, ek6, ba0, cd5, ao8, cx3, ap8, cp0, at7, cb3, ar9, aq8, bb8, al6, bu3, bz6, aw7, bm7, bl6, bm6, f0_504, f1_504, f2_504, f3_504, f4_504, f5_504, f6_504, f7_504, f8_504, f9_504, f10_504, f11_504, f12_504, f13_504, f14_504, f15_504, f16_504, f17_504, f18_504⟩ := hQ504
            have N504 := Fr.app N490 Nq504
            have G505 := (G491.keep Kq490 (ninS ne480 nin0))
            have ne506 := z_nc G505.lt bn1
            have ne507 := z_nc G505.lt ba0
            have ne508 := z_nc G505.lt ao8
            have ne509 := z_nc G505.lt ap8
            have ne510 := z_nc G505.lt at7
            have G511 := (G493.keep Kq490 (ninS ne482 nin0))
            have ne512 := z_nc G511.lt bn1
            have ne513 := z_nc G511.lt ba0
            have ne514 := z_nc G511.lt ao8
            have ne515 := z_nc G511.lt ap8
            have ne516 := z_nc G511.lt at7
            have G517 := (G495.keep Kq490 (ninS ne483 nin0))
            have ne518 := z_nc G517.lt bn1
            have ne519 := z_nc G517.lt ba0
            have ne520 := z_nc G517.lt ao8
            have ne521 := z_nc G517.lt ap8
            have ne522 := z_nc G517.lt at7
            have ne523 := z_nc f4_490.lt bn1
            have ne524 := z_nc f4_490.lt ba0
            have ne525 := z_nc f4_490.lt ao8
            have ne526 := z_nc f4_490.lt ap8
            have ne527 := z_nc f4_490.lt at7
            have G528 := (G497.keep Kq490)
            have ne529 := z_nc G528.lt bn1
            have ne530 := z_nc G528.lt ba0
            have ne531 := z_nc G528.lt ao8
            have ne532 := z_nc G528.lt ap8
            have ne533 := z_nc G528.lt at7
            have G534 := (G499.keep Kq490)
            have ne535 := z_nc G534.lt bn1
            have ne536 := z_nc G534.lt ba0
            have ne537 := z_nc G534.lt ao8
            have ne538 := z_nc G534.lt ap8
            have ne539 := z_nc G534.lt at7
            have G540 := (G501.keep Kq490)
            have ne541 := z_nc G540.lt bn1
            have ne542 := z_nc G540.lt ba0
            have ne543 := z_nc G540.lt ao8
            have ne544 := z_nc G540.lt ap8
            have ne545 := z_nc G540.lt at7
            have ne546 := z_nc f0_490.lt bn1
            have ne547 := z_nc f0_490.lt ba0
            have ne548 := z_nc f0_490.lt ao8
            have ne549 := z_nc f0_490.lt ap8
            have ne550 := z_nc f0_490.lt at7
            have ed7 := Nat.le_trans K490.1 bn1
            have cv6 := Nat.le_trans K490.1 ba0
            have cq4 := Nat.le_trans K490.1 ao8
            have cs1 := Nat.le_trans K490.1 ap8
            have cy3 := Nat.le_trans K490.1 at7
            have K504 := Keep.trans K490 Kq504 (allS (Or.inr bj8) (allS (Or.inr db0) all0))
            show aa0 p e below P (T504.setTop (mkF m 180 #[.val (.int p0), .val (.int p1), .val (.int p2), .val (.int p3), .val (.int p4), .val (.int cr), .val (.int ca), .val (.int v2), .val (.int (((p4.toUInt32 >>> ((2 : Int32) &&& 31).toUInt32).toInt32) &&& (3 : Int32))), .val (.int v6), .val (.ref b3_8), .val (.ref b3_10), .val (.ref b3_10), .val (.ref b3_467), .val (.ref b479), .unset, .unset, .unset] []))
            refine aw1 X504 hx (hb hby at_180) rfl rfl ?_
            refine aw1 X504 hx (hb hby at_182) rfl rfl ?_
            have G552 := (G540.keep Kq504)
            have G553 := (((((f1_8.keep Kq10 nin0).keep Kq467 nin0).ext E479).keep Kq490 (ninS ne488 nin0)).keep Kq504 (ninS ne488 (ninS ne502 nin0)))
            have G554 := (((((f2_8.keep Kq10 nin0).keep Kq467 nin0).ext E479).keep Kq490 (ninS ne488 nin0)).keep Kq504 (ninS ne488 (ninS ne502 nin0)))
            have G555 := (((((f3_8.keep Kq10 nin0).keep Kq467 nin0).ext E479).keep Kq490 (ninS ne488 nin0)).keep Kq504 (ninS ne488 (ninS ne502 nin0)))
            have G556 := (((((f4_8.keep Kq10 nin0).keep Kq467 nin0).ext E479).keep Kq490 (ninS ne488 nin0)).keep Kq504 (ninS ne488 (ninS ne502 nin0)))
            have G557 := (ad2 (ad2 ((ad2 G468 Kq467 all0).ext E479) Kq490 (allS (aw3 A479) all0)) Kq504 (allS (aw3 f0_490) (allS (ak9 f4_490) all0)))
            have G558 := (G517.keep Kq504 (ninS ne483 (ninS ne496 nin0)))
            refine az1 X504 hx hZ (y := (⟨z_s1, "enter", z_s7⟩ : MethodName)) (z := (⟨z_s1, "enter", z_s7⟩ : MethodName)) hown (z_w hw 40 rfl) (z_w hw 41 rfl) (notFace_of_selects (args := #[]) (mvT hZ (z_w hw 43 rfl))) (z_w hw 43 rfl) (z_w hw 42 rfl) (z_w hw 28 rfl) (z_w hw 44 rfl) f0_504 (ch2 l Z a0 hw [] b479 b3_8 b6_504 ((List.replicate 16 Value.null).set 0 (.ref b6_504)) (nar .byte (ca.toInt8.toInt32)) (List.replicate 16 Value.null) (List.replicate 16 (0 : Int32)) (List.replicate 16 (0 : Int32)) (0 : Int32) b2_490 b2_9_504 b2_4_9_504 b7_4_9_504 b15_4_9_504 (0 : Int32) (0 : Int32) b1_4_8 ab0 T504.heap n0 (Nat.le_trans Z0 K504.1) f0_504 f5_504 f9_504 G552 f1_504 f2_504 f3_504 f6_504 f10_504 f11_504 f12_504 f13_504 f14_504 f15_504 G553 G554 G555 G556 G557 f4_504 f16_504 f17_504 f18_504 G558 by6 cq8 cd5 cx3 cp0 cb3 cm0 ne503 ne547 ne548 ne549 ne550 ne488.symm ne524 ne525 ne526 ne527 ne502.symm bb8 bu3 bm7 ne542.symm bz6 bl6 ne543.symm bm6 ne544.symm ne545.symm ne546 ne483.symm ne523 ne496.symm ar9.symm ne519.symm aq8.symm ne520.symm al6.symm ne521.symm aw7.symm ne522.symm ne541 am7 hnz (by simp only [ap3, ae3, aq3, List.length_set, List.length_replicate]) (by simp only [ap3, ae3, aq3, List.length_set, List.length_replicate]) (by simp only [ap3, ae3, aq3, List.length_set, List.length_replicate]) (Or.inl rfl) (ch0 _) rfl rfl (by rfl)) 0 rfl hml' (argsL := [(.ref b3_8)]) (rest := []) (lenOf ai1 rfl) (hb hby at_184) (fun r551 T551 L551 X551 hQ551 => ?_)
            obtain ⟨b13_551, b2_26_551, rfl, Nq551, Kq551, ax6, cw6, av5, cr4, bw9, f0_551, f1_551, f2_551, f3_551, f4_551, f5_551, f6_551, f7_551, f8_551, f9_551, f10_551, f11_551, f12_551, f13_551, f14_551, f15_551, f16_551, f17_551, f18_551, f19_551, f20_551, f21_551, f22_551, f23_551, f24_551, f25_551, f26_551⟩ := hQ551
            have N551 := Fr.app N504 Nq551
            have ne559 := z_nc f18_504.lt ax6
            have ne560 := z_nc f18_504.lt av5
            have G561 := (G505.keep Kq504 (ninS ne480 (ninS ne492 nin0)))
            have ne562 := z_nc G561.lt ax6
            have ne563 := z_nc G561.lt av5
            have G564 := (G511.keep Kq504 (ninS ne482 (ninS ne494 nin0)))
            have ne565 := z_nc G564.lt ax6
            have ne566 := z_nc G564.lt av5
            have ne567 := z_nc G558.lt ax6
            have ne568 := z_nc G558.lt av5
            have ne569 := z_nc f4_504.lt ax6
            have ne570 := z_nc f4_504.lt av5
            have ne571 := z_nc f16_504.lt ax6
            have ne572 := z_nc f16_504.lt av5
            have ne573 := z_nc f9_504.lt ax6
            have ne574 := z_nc f9_504.lt av5
            have G575 := (G528.keep Kq504)
            have ne576 := z_nc G575.lt ax6
            have ne577 := z_nc G575.lt av5
            have G578 := (G534.keep Kq504)
            have ne579 := z_nc G578.lt ax6
            have ne580 := z_nc G578.lt av5
            have ne581 := z_nc G552.lt ax6
            have ne582 := z_nc G552.lt av5
            have ne583 := z_nc f0_504.lt ax6
            have ne584 := z_nc f0_504.lt av5
            have ne585 := z_nc f5_504.lt ax6
            have ne586 := z_nc f5_504.lt av5
            have ne587 := z_nc f17_504.lt ax6
            have ne588 := z_nc f17_504.lt av5
            have cr8 := Nat.le_trans K504.1 ax6
            have ce5 := Nat.le_trans K504.1 av5
            have K551 := Keep.trans K504 Kq551 (allS (Or.inr bj8) (allS (Or.inr db0) (allS (Or.inr cv6) (allS (Or.inr cq4) (allS (Or.inr cs1) (allS (Or.inr cy3) (allS (Or.inr cj2) all0)))))))
            show aa0 p e below P (T551.setTop (mkF m 187 #[.val (.int p0), .val (.int p1), .val (.int p2), .val (.int p3), .val (.int p4), .val (.int cr), .val (.int ca), .val (.int v2), .val (.int (((p4.toUInt32 >>> ((2 : Int32) &&& 31).toUInt32).toInt32) &&& (3 : Int32))), .val (.int v6), .val (.ref b3_8), .val (.ref b3_10), .val (.ref b3_10), .val (.ref b3_467), .val (.ref b479), .unset, .unset, .unset] []))
            refine aw1 X551 hx (hb hby at_187) rfl rfl ?_
            refine az1 X551 hx hZ (y := (⟨z_s1, "leave", "()V"⟩ : MethodName)) (z := (⟨z_s1, "leave", "()V"⟩ : MethodName)) hown (z_w hw 119 rfl) (z_w hw 120 rfl) (notFace_of_selects (args := #[]) (mvT hZ (z_w hw 122 rfl))) (z_w hw 122 rfl) (z_w hw 121 rfl) (z_w hw 28 rfl) (z_w hw 123 rfl) f0_551 (az8 l Z a0 hw [] b479 b2_490 T551.heap n0 (Nat.le_trans Z0 K551.1) f0_551 f3_551 f4_551 f5_551 by6) 0 rfl hml' (argsL := []) (rest := []) (lenOf as2 rfl) (hb hby at_189) (fun r589 T589 L589 X589 hQ589 => ?_)
            obtain ⟨rfl, Nq589, Kq589, f0_589, f1_589, f2_589, f3_589⟩ := hQ589
            have N589 := Fr.app N551 Nq589
            have K589 := Keep.trans K551 Kq589 (allS (Or.inr bj8) all0)
            show aa0 p e below P (T589.setTop (mkF m 192 #[.val (.int p0), .val (.int p1), .val (.int p2), .val (.int p3), .val (.int p4), .val (.int cr), .val (.int ca), .val (.int v2), .val (.int (((p4.toUInt32 >>> ((2 : Int32) &&& 31).toUInt32).toInt32) &&& (3 : Int32))), .val (.int v6), .val (.ref b3_8), .val (.ref b3_10), .val (.ref b3_10), .val (.ref b3_467), .val (.ref b479), .unset, .unset, .unset] []))
            refine aw1 X589 hx (hb hby at_192) rfl rfl ?_
            refine aw1 X589 hx (hb hby at_194) rfl rfl ?_
            obtain ⟨j590, hp590⟩ := cd4 b3_8 (nar .byte (ca.toInt8.toInt32)) (nar .byte (v2.toInt8.toInt32)) (1 : Int32) (ai3 false (List.replicate 16 (0 : Int32)) (ah0 (ac0 (nar .byte (ca.toInt8.toInt32)))) (0 : Int32)) (bs4 _)
            have G592 := ((f5_504.keep Kq551).keep Kq589)
            have G593 := (f1_551.keep Kq589)
            have G594 := (f20_551.keep Kq589)
            have G595 := (f24_551.keep Kq589)
            have G596 := ((G575.keep Kq551).keep Kq589)
            have G597 := (f2_551.keep Kq589)
            have G598 := ((f6_504.keep Kq551 (ninS ne546.symm (ninS ne523.symm (ninS ar9 (ninS aq8 (ninS al6 (ninS aw7 (ninS ne541.symm nin0)))))))).keep Kq589 (ninS ne546.symm nin0))
            have G599 := (f21_551.keep Kq589 (ninS ne583.symm nin0))
            have G600 := (f22_551.keep Kq589 (ninS ne583.symm nin0))
            have G601 := (f23_551.keep Kq589 (ninS ne583.symm nin0))
            have G602 := (f25_551.keep Kq589 (ninS ne584.symm nin0))
            have G603 := (f26_551.keep Kq589 (ninS ne584.symm nin0))
            have G604 := (f6_551.keep Kq589 (ninS ne547.symm nin0))
            have G605 := (f7_551.keep Kq589 (ninS ne547.symm nin0))
            have G606 := (f8_551.keep Kq589 (ninS ne547.symm nin0))
            have G607 := (f9_551.keep Kq589 (ninS ne547.symm nin0))
            have G608 := (f10_551.keep Kq589 (ninS ne547.symm nin0))
            have G609 := (f11_551.keep Kq589 (ninS ne547.symm nin0))
            have G610 := ((((((f1_10.keep Kq467 nin0).ext E479).keep Kq490 (ninS ne485 nin0)).keep Kq504 (ninS ne485 (ninS ne498 nin0))).keep Kq551 (ninS ne485 (ninS ne498 (ninS ne530 (ninS ne531 (ninS ne532 (ninS ne533 (ninS ne14.symm nin0)))))))).keep Kq589 (ninS ne485 nin0))
            have G611 := ((((((f2_10.keep Kq467 nin0).ext E479).keep Kq490 (ninS ne485 nin0)).keep Kq504 (ninS ne485 (ninS ne498 nin0))).keep Kq551 (ninS ne485 (ninS ne498 (ninS ne530 (ninS ne531 (ninS ne532 (ninS ne533 (ninS ne14.symm nin0)))))))).keep Kq589 (ninS ne485 nin0))
            have G612 := ((((((f3_10.keep Kq467 nin0).ext E479).keep Kq490 (ninS ne485 nin0)).keep Kq504 (ninS ne485 (ninS ne498 nin0))).keep Kq551 (ninS ne485 (ninS ne498 (ninS ne530 (ninS ne531 (ninS ne532 (ninS ne533 (ninS ne14.symm nin0)))))))).keep Kq589 (ninS ne485 nin0))
            have G613 := ((((((f4_10.keep Kq467 nin0).ext E479).keep Kq490 (ninS ne485 nin0)).keep Kq504 (ninS ne485 (ninS ne498 nin0))).keep Kq551 (ninS ne485 (ninS ne498 (ninS ne530 (ninS ne531 (ninS ne532 (ninS ne533 (ninS ne14.symm nin0)))))))).keep Kq589 (ninS ne485 nin0))
            have G614 := (f12_551.keep Kq589 (ninS ne488 nin0))
            have G615 := (f13_551.keep Kq589 (ninS ne488 nin0))
            have G616 := (ad2 (ad2 G557 Kq551 (allS (aw3 f0_504) (allS (ak9 f4_504) (allS (aw3 f9_504) (allS (ak9 f16_504) (allS (bs1 f17_504) (allS (bs1 f18_504) (allS (aw3 G552) all0)))))))) Kq589 (allS (aw3 f0_551) all0))
            have G617 := (f16_551.keep Kq589 (ninS ne503.symm nin0))
            have G618 := (f17_551.keep Kq589 (ninS ne548.symm nin0))
            have G619 := (f18_551.keep Kq589 (ninS ne549.symm nin0))
            have G620 := (f19_551.keep Kq589 (ninS ne550.symm nin0))
            have G621 := ((G561.keep Kq551 (ninS ne480 (ninS ne492 (ninS ne507 (ninS ne508 (ninS ne509 (ninS ne510 (ninS ne15.symm nin0)))))))).keep Kq589 (ninS ne480 nin0))
            have G622 := ((G558.keep Kq551 (ninS ne483 (ninS ne496 (ninS ne519 (ninS ne520 (ninS ne521 (ninS ne522 (ninS am7.symm nin0)))))))).keep Kq589 (ninS ne483 nin0))
            refine az1 X589 hx hZ (y := (⟨z_s1, "enter", z_s7⟩ : MethodName)) (z := (⟨z_s1, "enter", z_s7⟩ : MethodName)) hown (z_w hw 40 rfl) (z_w hw 41 rfl) (notFace_of_selects (args := #[]) (mvT hZ (z_w hw 43 rfl))) (z_w hw 43 rfl) (z_w hw 42 rfl) (z_w hw 28 rfl) (z_w hw 44 rfl) f0_589 (cp5 l Z a0 hw [] b479 b3_10 b6_504 b13_551 (((List.replicate 16 Value.null).set 0 (.ref b6_504)).set 1 (.ref b13_551)) (nar .byte (v2.toInt8.toInt32)) (ap4 false (List.replicate 16 Value.null) (ah0 (ac0 (nar .byte (ca.toInt8.toInt32)))) b3_8) (ai3 false (List.replicate 16 (0 : Int32)) (ah0 (ac0 (nar .byte (ca.toInt8.toInt32)))) (0 : Int32)) (ap6 false (List.replicate 16 (0 : Int32)) (ah0 (0 : Int32)) (ac0 (nar .byte (ca.toInt8.toInt32)))) (1 : Int32) (decide ((nar .byte (ca.toInt8.toInt32)) = (nar .byte (v2.toInt8.toInt32)))) j590 b3_8 (nar .byte (ca.toInt8.toInt32)) b2_490 b2_9_504 b2_26_551 b3_8 (ax0 false (0 : Int32)) b2_4_9_504 b7_4_9_504 b15_4_9_504 (ac5 false (0 : Int32)) (ac0 (nar .byte (ca.toInt8.toInt32))) b1_4_10 b1_4_8 ab0 T589.heap n0 (Nat.le_trans Z0 K589.1) f0_589 G592 G593 G594 G595 G596 G597 f1_589 f2_589 f3_589 G598 G599 G600 G601 G602 G603 G604 G605 G606 G607 G608 G609 G610 G611 G612 G613 G614 G615 G616 G617 G618 G619 G620 G621 G622 by6 cw6 cr4 cd5 cx3 cp0 cb3 ca5 ne583 ne584 ne547 ne548 ne549 ne550 ne485.symm bw9 ne573.symm ne571.symm ne587.symm ne559.symm ne576.symm ne574.symm ne572.symm ne588.symm ne560.symm ne577.symm bb8 bu3 bm7 ne530.symm bz6 bl6 ne531.symm bm6 ne532.symm ne533.symm ne546 ne488.symm ne503 ne480.symm ne483.symm ne585.symm ne581.symm ne569.symm ne562.symm ne567.symm ne586.symm ne582.symm ne570.symm ne563.symm ne568.symm ar9.symm ne542.symm ne524.symm ne507.symm ne519.symm aq8.symm ne543.symm ne525.symm ne508.symm ne520.symm al6.symm ne544.symm ne526.symm ne509.symm ne521.symm aw7.symm ne545.symm ne527.symm ne510.symm ne522.symm ne529 ne14.symm ne498 bv4 ne12.symm hnz (by simp only [ap3, ae3, aq3, List.length_set, List.length_replicate]) (by simp only [ap3, ae3, aq3, List.length_set, List.length_replicate]) (by simp only [ap3, ae3, aq3, List.length_set, List.length_replicate]) ce4 hp590 rfl rfl (by rfl)) 0 rfl hml' (argsL := [(.ref b3_10)]) (rest := []) (lenOf ai1 rfl) (hb hby at_196) (fun r591 T591 L591 X591 hQ591 => ?_)
            obtain ⟨rfl, Nq591, Kq591, f0_591, f1_591, f2_591, f3_591, f4_591, f5_591, f6_591, f7_591, f8_591, f9_591, f10_591, f11_591, f12_591, f13_591, f14_591, f15_591, f16_591, f17_591, f18_591, f19_591, f20_591, f21_591, f22_591, f23_591, f24_591, f25_591⟩ := hQ591
            have N591 := Fr.app N589 Nq591
            have K591 := Keep.trans K589 Kq591 (allS (Or.inr bj8) (allS (Or.inr cr8) (allS (Or.inr ce5) (allS (Or.inr cv6) (allS (Or.inr cq4) (allS (Or.inr cs1) (allS (Or.inr cy3) (allS (Or.inr ck7) all0))))))))
            show aa0 p e below P (T591.setTop (mkF m 199 #[.val (.int p0), .val (.int p1), .val (.int p2), .val (.int p3), .val (.int p4), .val (.int cr), .val (.int ca), .val (.int v2), .val (.int (((p4.toUInt32 >>> ((2 : Int32) &&& 31).toUInt32).toInt32) &&& (3 : Int32))), .val (.int v6), .val (.ref b3_8), .val (.ref b3_10), .val (.ref b3_10), .val (.ref b3_467), .val (.ref b479), .unset, .unset, .unset] []))
            refine aw1 X591 hx (hb hby at_199) rfl rfl ?_
            refine az1 X591 hx hZ (y := (⟨z_s1, "leave", "()V"⟩ : MethodName)) (z := (⟨z_s1, "leave", "()V"⟩ : MethodName)) hown (z_w hw 119 rfl) (z_w hw 120 rfl) (notFace_of_selects (args := #[]) (mvT hZ (z_w hw 122 rfl))) (z_w hw 122 rfl) (z_w hw 121 rfl) (z_w hw 28 rfl) (z_w hw 123 rfl) f0_591 (az8 l Z a0 hw [] b479 b2_490 T591.heap n0 (Nat.le_trans Z0 K591.1) f0_591 f5_591 f6_591 f7_591 by6) 0 rfl hml' (argsL := []) (rest := []) (lenOf as2 rfl) (hb hby at_201) (fun r623 T623 L623 X623 hQ623 => ?_)
            obtain ⟨rfl, Nq623, Kq623, f0_623, f1_623, f2_623, f3_623⟩ := hQ623
            have N623 := Fr.app N591 Nq623
            have K623 := Keep.trans K591 Kq623 (allS (Or.inr bj8) all0)
            show aa0 p e below P (T623.setTop (mkF m 204 #[.val (.int p0), .val (.int p1), .val (.int p2), .val (.int p3), .val (.int p4), .val (.int cr), .val (.int ca), .val (.int v2), .val (.int (((p4.toUInt32 >>> ((2 : Int32) &&& 31).toUInt32).toInt32) &&& (3 : Int32))), .val (.int v6), .val (.ref b3_8), .val (.ref b3_10), .val (.ref b3_10), .val (.ref b3_467), .val (.ref b479), .unset, .unset, .unset] []))
            refine aw1 X623 hx (hb hby at_204) rfl rfl ?_
            refine aw1 X623 hx (hb hby at_206) rfl rfl ?_
            have G626 := ((G592.keep Kq591).keep Kq623)
            have G627 := (f1_591.keep Kq623)
            have G628 := (f2_591.keep Kq623)
            have G629 := (f3_591.keep Kq623)
            have G630 := ((G598.keep Kq591 (ninS ne546.symm (ninS ne585 (ninS ne586 (ninS ar9 (ninS aq8 (ninS al6 (ninS aw7 (ninS ne529.symm nin0))))))))).keep Kq623 (ninS ne546.symm nin0))
            have G631 := (f8_591.keep Kq623 (ninS ne583.symm nin0))
            have G632 := (f9_591.keep Kq623 (ninS ne583.symm nin0))
            have G633 := (f10_591.keep Kq623 (ninS ne583.symm nin0))
            have G634 := (f11_591.keep Kq623 (ninS ne584.symm nin0))
            have G635 := (f12_591.keep Kq623 (ninS ne584.symm nin0))
            have G636 := (f14_591.keep Kq623 (ninS ne547.symm nin0))
            have G637 := (f17_591.keep Kq623 (ninS ne547.symm nin0))
            have G638 := (f18_591.keep Kq623 (ninS ne547.symm nin0))
            have G639 := ((G617.keep Kq591 (ninS ne503.symm (ninS ne569 (ninS ne570 (ninS ne524 (ninS ne525 (ninS ne526 (ninS ne527 (ninS ne498.symm nin0))))))))).keep Kq623 (ninS ne503.symm nin0))
            have G640 := (f24_591.keep Kq623 (ninS ne549.symm nin0))
            refine az1 X623 hx hZ (y := (⟨z_s1, "enter", z_s7⟩ : MethodName)) (z := (⟨z_s1, "enter", z_s7⟩ : MethodName)) hown (z_w hw 40 rfl) (z_w hw 41 rfl) (notFace_of_selects (args := #[]) (mvT hZ (z_w hw 43 rfl))) (z_w hw 43 rfl) (z_w hw 42 rfl) (z_w hw 28 rfl) (z_w hw 44 rfl) f0_623 (ci2 l Z a0 hw [] b479 b3_10 b6_504 b13_551 (((List.replicate 16 Value.null).set 0 (.ref b6_504)).set 1 (.ref b13_551)) (ai3 (decide ((nar .byte (ca.toInt8.toInt32)) = (nar .byte (v2.toInt8.toInt32)))) (ai3 false (List.replicate 16 (0 : Int32)) (ah0 (ac0 (nar .byte (ca.toInt8.toInt32)))) (0 : Int32)) (ah0 j590) (1 : Int32)) (ax0 (decide ((nar .byte (ca.toInt8.toInt32)) = (nar .byte (v2.toInt8.toInt32)))) (1 : Int32)) b2_490 b2_9_504 b2_26_551 b3_10 (ax0 (decide ((nar .byte (ca.toInt8.toInt32)) = (nar .byte (v2.toInt8.toInt32)))) (1 : Int32)) b7_4_9_504 j590 T623.heap n0 (Nat.le_trans Z0 K623.1) f0_623 G626 G627 G628 G629 f1_623 f2_623 f3_623 G630 G631 G632 G633 G634 G635 G636 G637 G638 G639 G640 by6 cw6 cr4 cp0 ne583 ne584 ne549 bw9 ne587.symm ne588.symm ne546 ne547 ne503 ne585.symm ne573.symm ne569.symm ne586.symm ne574.symm ne570.symm al6.symm bu3.symm ne526.symm (ch8 hp590).1 (ex0 (by simp only [ap3, ae3, aq3, List.length_set, List.length_replicate]) hp590) rfl rfl (by rfl)) 0 rfl hml' (argsL := [(.ref b3_10)]) (rest := []) (lenOf ai1 rfl) (hb hby at_208) (fun r625 T625 L625 X625 hQ625 => ?_)
            obtain ⟨rfl, Nq625, Kq625, f0_625, f1_625, f2_625, f3_625, f4_625, f5_625, f6_625, f7_625, f8_625, f9_625, f10_625, f11_625⟩ := hQ625
            have N625 := Fr.app N623 Nq625
            have K625 := Keep.trans K623 Kq625 (allS (Or.inr bj8) (allS (Or.inr cr8) (allS (Or.inr ce5) (allS (Or.inr cs1) all0))))
            show aa0 p e below P (T625.setTop (mkF m 211 #[.val (.int p0), .val (.int p1), .val (.int p2), .val (.int p3), .val (.int p4), .val (.int cr), .val (.int ca), .val (.int v2), .val (.int (((p4.toUInt32 >>> ((2 : Int32) &&& 31).toUInt32).toInt32) &&& (3 : Int32))), .val (.int v6), .val (.ref b3_8), .val (.ref b3_10), .val (.ref b3_10), .val (.ref b3_467), .val (.ref b479), .unset, .unset, .unset] []))
            refine aw1 X625 hx (hb hby at_211) rfl rfl ?_
            have G642 := (G639.keep Kq625 (ninS ne503.symm (ninS ne569 (ninS ne570 (ninS ne526 nin0)))))
            refine az1 X625 hx hZ (y := (⟨z_s1, "index", "()I"⟩ : MethodName)) (z := (⟨z_s1, "index", "()I"⟩ : MethodName)) hown (z_w hw 132 rfl) (z_w hw 133 rfl) (notFace_of_selects (args := #[]) (mvT hZ (z_w hw 135 rfl))) (z_w hw 135 rfl) (z_w hw 134 rfl) (z_w hw 28 rfl) (z_w hw 136 rfl) f0_625 (ck0 l Z a0 hw [] b479 b13_551 (((List.replicate 16 Value.null).set 0 (.ref b6_504)).set 1 (.ref b13_551)) b2_490 ((ax0 (decide ((nar .byte (ca.toInt8.toInt32)) = (nar .byte (v2.toInt8.toInt32)))) (1 : Int32)) + (1 : Int32)) T625.heap n0 (Nat.le_trans Z0 K625.1) f3_625 f4_625 f8_625 G642 rfl) 0 rfl hml' (argsL := []) (rest := []) (lenOf au4 rfl) (hb hby at_213) (fun r641 T641 L641 X641 hQ641 => ?_)
            obtain ⟨rfl, Nq641, eq641⟩ := hQ641
            have N641 := Fr.app N625 Nq641
            show aa0 p e below P (T641.setTop (mkF m 216 #[.val (.int p0), .val (.int p1), .val (.int p2), .val (.int p3), .val (.int p4), .val (.int cr), .val (.int ca), .val (.int v2), .val (.int (((p4.toUInt32 >>> ((2 : Int32) &&& 31).toUInt32).toInt32) &&& (3 : Int32))), .val (.int v6), .val (.ref b3_8), .val (.ref b3_10), .val (.ref b3_10), .val (.ref b3_467), .val (.ref b479), .unset, .unset, .unset] [(.int ((ax0 (decide ((nar .byte (ca.toInt8.toInt32)) = (nar .byte (v2.toInt8.toInt32)))) (1 : Int32)) + (1 : Int32)))]))
            refine as4 X641 hx (hb hby at_216) (l' := #[.val (.int p0), .val (.int p1), .val (.int p2), .val (.int p3), .val (.int p4), .val (.int cr), .val (.int ca), .val (.int v2), .val (.int (((p4.toUInt32 >>> ((2 : Int32) &&& 31).toUInt32).toInt32) &&& (3 : Int32))), .val (.int v6), .val (.ref b3_8), .val (.ref b3_10), .val (.ref b3_10), .val (.ref b3_467), .val (.ref b479), .val (.int ((ax0 (decide ((nar .byte (ca.toInt8.toInt32)) = (nar .byte (v2.toInt8.toInt32)))) (1 : Int32)) + (1 : Int32))), .unset, .unset]) rfl ?_
            refine aw1 X641 hx (hb hby at_218) rfl rfl ?_
            refine az1 X641 hx hZ (y := (⟨z_s1, "leave", "()V"⟩ : MethodName)) (z := (⟨z_s1, "leave", "()V"⟩ : MethodName)) hown (z_w hw 119 rfl) (z_w hw 120 rfl) (notFace_of_selects (args := #[]) (mvT hZ (z_w hw 122 rfl))) (z_w hw 122 rfl) (z_w hw 121 rfl) (z_w hw 28 rfl) (z_w hw 123 rfl) f0_625 (az8 l Z a0 hw [] b479 b2_490 T625.heap n0 (Nat.le_trans Z0 K625.1) f0_625 f3_625 f4_625 f5_625 by6) 0 eq641 hml' (argsL := []) (rest := []) (lenOf as2 rfl) (hb hby at_220) (fun r643 T643 L643 X643 hQ643 => ?_)
            obtain ⟨rfl, Nq643, Kq643, f0_643, f1_643, f2_643, f3_643⟩ := hQ643
            have N643 := Fr.app N641 Nq643
            have K643 := Keep.trans K625 Kq643 (allS (Or.inr bj8) all0)
            show aa0 p e below P (T643.setTop (mkF m 223 #[.val (.int p0), .val (.int p1), .val (.int p2), .val (.int p3), .val (.int p4), .val (.int cr), .val (.int ca), .val (.int v2), .val (.int (((p4.toUInt32 >>> ((2 : Int32) &&& 31).toUInt32).toInt32) &&& (3 : Int32))), .val (.int v6), .val (.ref b3_8), .val (.ref b3_10), .val (.ref b3_10), .val (.ref b3_467), .val (.ref b479), .val (.int ((ax0 (decide ((nar .byte (ca.toInt8.toInt32)) = (nar .byte (v2.toInt8.toInt32)))) (1 : Int32)) + (1 : Int32))), .unset, .unset] []))
            refine aw1 X643 hx (hb hby at_223) rfl rfl ?_
            have G645 := ((((((f8_504.keep Kq551 (ninS ne546.symm (ninS ne523.symm (ninS ar9 (ninS aq8 (ninS al6 (ninS aw7 (ninS ne541.symm nin0)))))))).keep Kq589 (ninS ne546.symm nin0)).keep Kq591 (ninS ne546.symm (ninS ne585 (ninS ne586 (ninS ar9 (ninS aq8 (ninS al6 (ninS aw7 (ninS ne529.symm nin0))))))))).keep Kq623 (ninS ne546.symm nin0)).keep Kq625 (ninS ne546.symm (ninS ne585 (ninS ne586 (ninS al6 nin0))))).keep Kq643 (ninS ne546.symm nin0))
            have G646 := (G642.keep Kq643 (ninS ne503.symm nin0))
            refine az1 X643 hx hZ (y := (⟨z_s1, "index", "()I"⟩ : MethodName)) (z := (⟨z_s1, "index", "()I"⟩ : MethodName)) hown (z_w hw 132 rfl) (z_w hw 133 rfl) (notFace_of_selects (args := #[]) (mvT hZ (z_w hw 135 rfl))) (z_w hw 135 rfl) (z_w hw 134 rfl) (z_w hw 28 rfl) (z_w hw 136 rfl) f0_643 (cl0 l Z a0 hw [] b479 b6_504 (((List.replicate 16 Value.null).set 0 (.ref b6_504)).set 1 (.ref b13_551)) b2_490 (1 : Int32) T643.heap n0 (Nat.le_trans Z0 K643.1) f1_643 f2_643 G645 G646 rfl) 0 rfl hml' (argsL := []) (rest := []) (lenOf au4 rfl) (hb hby at_225) (fun r644 T644 L644 X644 hQ644 => ?_)
            obtain ⟨rfl, Nq644, eq644⟩ := hQ644
            have N644 := Fr.app N643 Nq644
            show aa0 p e below P (T644.setTop (mkF m 228 #[.val (.int p0), .val (.int p1), .val (.int p2), .val (.int p3), .val (.int p4), .val (.int cr), .val (.int ca), .val (.int v2), .val (.int (((p4.toUInt32 >>> ((2 : Int32) &&& 31).toUInt32).toInt32) &&& (3 : Int32))), .val (.int v6), .val (.ref b3_8), .val (.ref b3_10), .val (.ref b3_10), .val (.ref b3_467), .val (.ref b479), .val (.int ((ax0 (decide ((nar .byte (ca.toInt8.toInt32)) = (nar .byte (v2.toInt8.toInt32)))) (1 : Int32)) + (1 : Int32))), .unset, .unset] [(.int (1 : Int32))]))
            refine as4 X644 hx (hb hby at_228) (l' := #[.val (.int p0), .val (.int p1), .val (.int p2), .val (.int p3), .val (.int p4), .val (.int cr), .val (.int ca), .val (.int v2), .val (.int (((p4.toUInt32 >>> ((2 : Int32) &&& 31).toUInt32).toInt32) &&& (3 : Int32))), .val (.int v6), .val (.ref b3_8), .val (.ref b3_10), .val (.ref b3_10), .val (.ref b3_467), .val (.ref b479), .val (.int ((ax0 (decide ((nar .byte (ca.toInt8.toInt32)) = (nar .byte (v2.toInt8.toInt32)))) (1 : Int32)) + (1 : Int32))), .val (.int (1 : Int32)), .unset]) rfl ?_
            refine az0 X644 hx (hb hby at_230) (z := (1 : Int32)) rfl ?_
            refine ay1 X644 hx (hb hby at_231) rfl ?_
            refine ay1 X644 hx (hb hby at_233) rfl ?_
            have J649 : ∀ v648 : Int32, v648 = (if ca = v6 then (1 : Int32) else (0 : Int32)) → aa0 p e below P (T644.setTop (mkF m 243 #[.val (.int p0), .val (.int p1), .val (.int p2), .val (.int p3), .val (.int p4), .val (.int cr), .val (.int ca), .val (.int v2), .val (.int (((p4.toUInt32 >>> ((2 : Int32) &&& 31).toUInt32).toInt32) &&& (3 : Int32))), .val (.int v6), .val (.ref b3_8), .val (.ref b3_10), .val (.ref b3_10), .val (.ref b3_467), .val (.ref b479), .val (.int ((ax0 (decide ((nar .byte (ca.toInt8.toInt32)) = (nar .byte (v2.toInt8.toInt32)))) (1 : Int32)) + (1 : Int32))), .val (.int (1 : Int32)), .unset] [(.int v648), (.int (1 : Int32))])) := by
              intro v648 e_v648
              refine ad6 X644 hx (hb hby at_243) (z := ((1 : Int32) + v648)) rfl ?_
              refine ay1 X644 hx (hb hby at_244) rfl ?_
              refine ay1 X644 hx (hb hby at_246) rfl ?_
              have J652 : ∀ v651 : Int32, v651 = (if v2 = v6 then (1 : Int32) else (0 : Int32)) → aa0 p e below P (T644.setTop (mkF m 256 #[.val (.int p0), .val (.int p1), .val (.int p2), .val (.int p3), .val (.int p4), .val (.int cr), .val (.int ca), .val (.int v2), .val (.int (((p4.toUInt32 >>> ((2 : Int32) &&& 31).toUInt32).toInt32) &&& (3 : Int32))), .val (.int v6), .val (.ref b3_8), .val (.ref b3_10), .val (.ref b3_10), .val (.ref b3_467), .val (.ref b479), .val (.int ((ax0 (decide ((nar .byte (ca.toInt8.toInt32)) = (nar .byte (v2.toInt8.toInt32)))) (1 : Int32)) + (1 : Int32))), .val (.int (1 : Int32)), .unset] [(.int v651), (.int ((1 : Int32) + v648))])) := by
                intro v651 e_v651
                refine ad6 X644 hx (hb hby at_256) (z := (((1 : Int32) + v648) + v651)) rfl ?_
                refine as4 X644 hx (hb hby at_257) (l' := #[.val (.int p0), .val (.int p1), .val (.int p2), .val (.int p3), .val (.int p4), .val (.int cr), .val (.int ca), .val (.int v2), .val (.int (((p4.toUInt32 >>> ((2 : Int32) &&& 31).toUInt32).toInt32) &&& (3 : Int32))), .val (.int v6), .val (.ref b3_8), .val (.ref b3_10), .val (.ref b3_10), .val (.ref b3_467), .val (.ref b479), .val (.int ((ax0 (decide ((nar .byte (ca.toInt8.toInt32)) = (nar .byte (v2.toInt8.toInt32)))) (1 : Int32)) + (1 : Int32))), .val (.int (1 : Int32)), .val (.int (((1 : Int32) + v648) + v651))]) rfl ?_
                refine ay1 X644 hx (hb hby at_259) rfl ?_
                refine ay1 X644 hx (hb hby at_261) rfl ?_
                have hd653 : ((ax0 (decide ((nar .byte (ca.toInt8.toInt32)) = (nar .byte (v2.toInt8.toInt32)))) (1 : Int32)) + (1 : Int32)) = (((1 : Int32) + v648) + v651) := by rw [e_v648, e_v651]; exact ec1 Ha Hb hc466
                refine a4 X644 hx (hb hby at_263) (teq hd653).2 ?_
                refine ay1 X644 hx (hb hby at_266) rfl ?_
                refine az0 X644 hx (hb hby at_268) (z := (1 : Int32)) rfl ?_
                refine a4 X644 hx (hb hby at_269) (teq (by decide : (1 : Int32) = (1 : Int32))).2 ?_
                refine az0 X644 hx (hb hby at_272) (z := (1 : Int32)) rfl ?_
                refine ao4 X644 hx (pc' := 277) (hb hby at_273) ?_
                exact bd1 X644 hx hlk hP (t := .boolean) (by simp) hrt (hb hby at_277) (by decide) (by decide) ⟨rfl, N644⟩
              by_cases hc650 : v2 = v6
              · refine a4 X644 hx (hb hby at_248) (teq hc650).2 ?_
                refine az0 X644 hx (hb hby at_251) (z := (1 : Int32)) rfl ?_
                refine ao4 X644 hx (pc' := 256) (hb hby at_252) ?_
                exact J652 _ ((if_pos hc650).trans (rfl)).symm
              · refine au3 X644 hx (pc' := 255) (hb hby at_248) (feq hc650).2 ?_
                refine az0 X644 hx (hb hby at_255) (z := (0 : Int32)) rfl ?_
                exact J652 _ ((if_neg hc650).trans (rfl)).symm
            by_cases hc647 : ca = v6
            · refine a4 X644 hx (hb hby at_235) (teq hc647).2 ?_
              refine az0 X644 hx (hb hby at_238) (z := (1 : Int32)) rfl ?_
              refine ao4 X644 hx (pc' := 243) (hb hby at_239) ?_
              exact J649 _ ((if_pos hc647).trans (rfl)).symm
            · refine au3 X644 hx (pc' := 242) (hb hby at_235) (feq hc647).2 ?_
              refine az0 X644 hx (hb hby at_242) (z := (0 : Int32)) rfl ?_
              exact J649 _ ((if_neg hc647).trans (rfl)).symm
          · refine au3 X10 hx (pc' := 128) (hb hby at_118) (feq hc466).2 ?_
            exact Jn268
      refine ay1 X8 hx (hb hby at_80) rfl ?_
      refine az0 X8 hx (hb hby at_82) (z := (1 : Int32)) rfl ?_
      refine az7 X8 hx (hb hby at_83) (z := (p4 &&& (1 : Int32))) rfl ?_
      by_cases hc654 : (p4 &&& (1 : Int32)) = (0 : Int32)
      · refine al7 X8 hx (pc' := 99) (hb hby at_84) ((if0 _ _).trans (teq hc654).1) ?_
        exact Jn9
      · refine aq7 X8 hx (hb hby at_84) ((if0 _ _).trans (feq hc654).1) ?_
        refine ay1 X8 hx (hb hby at_87) rfl ?_
        refine ay1 X8 hx (hb hby at_89) rfl ?_
        by_cases hc655 : v2 = ca
        · refine a4 X8 hx (hb hby at_91) (teq hc655).2 ?_
          refine aw1 X8 hx (hb hby at_94) rfl rfl ?_
          refine ao4 X8 hx (pc' := 104) (hb hby at_96) ?_
          refine ao6 X8 hx (hb hby at_104) rfl (l' := #[.val (.int p0), .val (.int p1), .val (.int p2), .val (.int p3), .val (.int p4), .val (.int cr), .val (.int ca), .val (.int v2), .val (.int (((p4.toUInt32 >>> ((2 : Int32) &&& 31).toUInt32).toInt32) &&& (3 : Int32))), .val (.int v6), .val (.ref b3_8), .val (.ref b3_8), .unset, .unset, .unset, .unset, .unset, .unset]) rfl ?_
          have Jn656 : aa0 p e below P (T8.setTop (mkF m 150 #[.val (.int p0), .val (.int p1), .val (.int p2), .val (.int p3), .val (.int p4), .val (.int cr), .val (.int ca), .val (.int v2), .val (.int (((p4.toUInt32 >>> ((2 : Int32) &&& 31).toUInt32).toInt32) &&& (3 : Int32))), .val (.int v6), .val (.ref b3_8), .val (.ref b3_8), .unset, .unset, .unset, .unset, .unset, .unset] [])) := by
            refine ay1 X8 hx (hb hby at_150) rfl ?_
            have G658 := (ad2 ar0 Kq8 all0)
            refine as5 X8 hx hZ (y := (⟨z_s2, "valueOf", "(C)Ljava/lang/String;"⟩ : MethodName)) hown (z_w hw 0 rfl) (z_w hw 1 rfl) (z_w hw 2 rfl) (z_w hw 3 rfl) (bd5 l Z a0 hw [] v6 ab0 T8.heap n0 (Nat.le_trans Z0 K8.1) G658 hnz (bp3 Hc)) 0 rfl hml' (argsL := [(.int v6)]) (rest := []) (lenOf aj3 rfl) (hb hby at_152) (fun r657 T657 L657 X657 hQ657 => ?_)
            obtain ⟨b3_657, b1_4_657, rfl, Nq657, Kq657, cj4, dv7, ct2, ef5, cf5, f0_657, f1_657, f2_657, f3_657, f4_657, f5_657⟩ := hQ657
            have N657 := Fr.app N8 Nq657
            have ne659 := z_nc f5_8.lt cj4
            have ne660 := z_nc f5_8.lt ct2
            have ne661 := z_nc f0_8.lt cj4
            have ne662 := z_nc f0_8.lt ct2
            have ep1 := Nat.le_trans K8.1 cj4
            have eu5 := Nat.le_trans K8.1 ct2
            have K657 := Keep.trans K8 Kq657 all0
            show aa0 p e below P (T657.setTop (mkF m 155 #[.val (.int p0), .val (.int p1), .val (.int p2), .val (.int p3), .val (.int p4), .val (.int cr), .val (.int ca), .val (.int v2), .val (.int (((p4.toUInt32 >>> ((2 : Int32) &&& 31).toUInt32).toInt32) &&& (3 : Int32))), .val (.int v6), .val (.ref b3_8), .val (.ref b3_8), .unset, .unset, .unset, .unset, .unset, .unset] [(.ref b3_657)]))
            refine ao6 X657 hx (hb hby at_155) rfl (l' := #[.val (.int p0), .val (.int p1), .val (.int p2), .val (.int p3), .val (.int p4), .val (.int cr), .val (.int ca), .val (.int v2), .val (.int (((p4.toUInt32 >>> ((2 : Int32) &&& 31).toUInt32).toInt32) &&& (3 : Int32))), .val (.int v6), .val (.ref b3_8), .val (.ref b3_8), .val (.ref b3_657), .unset, .unset, .unset, .unset, .unset]) rfl ?_
            refine ay1 X657 hx (hb hby at_157) rfl ?_
            have G664 := (ad2 G658 Kq657 all0)
            refine as5 X657 hx hZ (y := (⟨z_s2, "valueOf", "(C)Ljava/lang/String;"⟩ : MethodName)) hown (z_w hw 0 rfl) (z_w hw 1 rfl) (z_w hw 2 rfl) (z_w hw 3 rfl) (bd5 l Z a0 hw [] cr ab0 T657.heap n0 (Nat.le_trans Z0 K657.1) G664 hnz (bp3 Hr)) 0 rfl hml' (argsL := [(.int cr)]) (rest := []) (lenOf aj3 rfl) (hb hby at_159) (fun r663 T663 L663 X663 hQ663 => ?_)
            obtain ⟨b3_663, b1_4_663, rfl, Nq663, Kq663, bx9, el6, ba7, eg5, eq1, f0_663, f1_663, f2_663, f3_663, f4_663, f5_663⟩ := hQ663
            have N663 := Fr.app N657 Nq663
            have ne665 := z_nc f5_657.lt bx9
            have ne666 := z_nc f5_657.lt ba7
            have G667 := (f5_8.keep Kq657 nin0)
            have ne668 := z_nc G667.lt bx9
            have ne669 := z_nc G667.lt ba7
            have ne670 := z_nc f0_657.lt bx9
            have ne671 := z_nc f0_657.lt ba7
            have G672 := (f0_8.keep Kq657)
            have ne673 := z_nc G672.lt bx9
            have ne674 := z_nc G672.lt ba7
            have ee7 := Nat.le_trans K657.1 bx9
            have ev5 := Nat.le_trans K657.1 ba7
            have K663 := Keep.trans K657 Kq663 all0
            show aa0 p e below P (T663.setTop (mkF m 162 #[.val (.int p0), .val (.int p1), .val (.int p2), .val (.int p3), .val (.int p4), .val (.int cr), .val (.int ca), .val (.int v2), .val (.int (((p4.toUInt32 >>> ((2 : Int32) &&& 31).toUInt32).toInt32) &&& (3 : Int32))), .val (.int v6), .val (.ref b3_8), .val (.ref b3_8), .val (.ref b3_657), .unset, .unset, .unset, .unset, .unset] [(.ref b3_663)]))
            refine ao6 X663 hx (hb hby at_162) rfl (l' := #[.val (.int p0), .val (.int p1), .val (.int p2), .val (.int p3), .val (.int p4), .val (.int cr), .val (.int ca), .val (.int v2), .val (.int (((p4.toUInt32 >>> ((2 : Int32) &&& 31).toUInt32).toInt32) &&& (3 : Int32))), .val (.int v6), .val (.ref b3_8), .val (.ref b3_8), .val (.ref b3_657), .val (.ref b3_663), .unset, .unset, .unset, .unset]) rfl ?_
            obtain ⟨T675, h675, X675, e675, E675, A675, D675, -, st675⟩ := newO X663 hx hZ hown (z_w hw 26 rfl) (z_w hw 27 rfl) (z_w hw 28 rfl) rfl (g := (mkF m 164 #[.val (.int p0), .val (.int p1), .val (.int p2), .val (.int p3), .val (.int p4), .val (.int cr), .val (.int ca), .val (.int v2), .val (.int (((p4.toUInt32 >>> ((2 : Int32) &&& 31).toUInt32).toInt32) &&& (3 : Int32))), .val (.int v6), .val (.ref b3_8), .val (.ref b3_8), .val (.ref b3_657), .val (.ref b3_663), .unset, .unset, .unset, .unset] [])) rfl (hb hby at_164) (by decide) (by decide)
            obtain ⟨b675, g675⟩ : ∃ z, z = T663.heap.size := ⟨_, rfl⟩
            rw [← g675] at A675 D675 st675
            have G677 := (f5_657.keep Kq663 nin0)
            have ne676 := z_nb G677.lt g675
            have ne678 := z_nb f5_663.lt g675
            have G680 := (G667.keep Kq663 nin0)
            have ne679 := z_nb G680.lt g675
            have G682 := (f0_657.keep Kq663)
            have ne681 := z_nb G682.lt g675
            have ne683 := z_nb f0_663.lt g675
            have G685 := (G672.keep Kq663)
            have ne684 := z_nb G685.lt g675
            have bb7 : n0 ≤ b675 := Nat.le_trans (Nat.le_trans Z0 K663.1) (Nat.le_of_eq g675.symm)
            have bk8 : h0.size ≤ b675 := Nat.le_trans K663.1 (Nat.le_of_eq g675.symm)
            have K675 := Keep.ext K663 E675
            have dm0 : Fld Z h675 b675 z_s1 "levels" z_s4 .null := D675 (Or.inl (z_w hw 36 rfl)) (ty := (.array (.object z_s3))) (by decide)
            have dp4 : Fld Z h675 b675 z_s1 "path" "[C" .null := D675 (Or.inl (z_w hw 39 rfl)) (ty := (.array .char)) (by decide)
            have di1 : Fld Z h675 b675 z_s1 "depth" "I" (.int (0 : Int32)) := D675 (Or.inl (z_w hw 46 rfl)) (ty := .int) (by decide)
            have ci9 : Fld Z h675 b675 z_s1 "written" "I" (.int (0 : Int32)) := D675 (Or.inl (z_w hw 87 rfl)) (ty := .int) (by decide)
            refine an1 (fun _ => st675 _) ?_
            show aa0 p e below P (T675.setTop (mkF m 167 #[.val (.int p0), .val (.int p1), .val (.int p2), .val (.int p3), .val (.int p4), .val (.int cr), .val (.int ca), .val (.int v2), .val (.int (((p4.toUInt32 >>> ((2 : Int32) &&& 31).toUInt32).toInt32) &&& (3 : Int32))), .val (.int v6), .val (.ref b3_8), .val (.ref b3_8), .val (.ref b3_657), .val (.ref b3_663), .unset, .unset, .unset, .unset] [(.ref b675)]))
            refine bi0 X675 hx (hb hby at_167) rfl ?_
            refine cb0 X675 hx hZ (y := (⟨z_s1, "<init>", "()V"⟩ : MethodName)) hown (z_w hw 29 rfl) (z_w hw 30 rfl) (z_w hw 28 rfl) (z_w hw 31 rfl) (ce2 l Z a0 hw [] b675  h675 n0 (Nat.le_trans Z0 K675.1) A675 dm0 dp4 di1 ci9 bb7) 1 e675 hml' (a := b675) (argsL := []) (rest := [(.ref b675)]) (lenOf as2 rfl) (hb hby at_168) (fun r686 T686 L686 X686 hQ686 => ?_)
            obtain ⟨b2_686, rfl, Nq686, Kq686, br2, cs8, f0_686, f1_686, f2_686, f3_686, f4_686⟩ := hQ686
            have N686 := Fr.app N663 Nq686
            have G687 := (G677.ext E675)
            have ne688 := z_nc G687.lt br2
            have G689 := (f5_663.ext E675)
            have ne690 := z_nc G689.lt br2
            have G691 := (G680.ext E675)
            have ne692 := z_nc G691.lt br2
            have G693 := (G682.ext E675)
            have ne694 := z_nc G693.lt br2
            have G695 := (f0_663.ext E675)
            have ne696 := z_nc G695.lt br2
            have G697 := (G685.ext E675)
            have ne698 := z_nc G697.lt br2
            have ne699 := z_nc A675.lt br2
            have dc0 := Nat.le_trans K675.1 br2
            have K686 := Keep.trans K675 Kq686 (allS (Or.inr bk8) all0)
            show aa0 p e below P (T686.setTop (mkF m 171 #[.val (.int p0), .val (.int p1), .val (.int p2), .val (.int p3), .val (.int p4), .val (.int cr), .val (.int ca), .val (.int v2), .val (.int (((p4.toUInt32 >>> ((2 : Int32) &&& 31).toUInt32).toInt32) &&& (3 : Int32))), .val (.int v6), .val (.ref b3_8), .val (.ref b3_8), .val (.ref b3_657), .val (.ref b3_663), .unset, .unset, .unset, .unset] [(.ref b675)]))
            refine ao6 X686 hx (hb hby at_171) rfl (l' := #[.val (.int p0), .val (.int p1), .val (.int p2), .val (.int p3), .val (.int p4), .val (.int cr), .val (.int ca), .val (.int v2), .val (.int (((p4.toUInt32 >>> ((2 : Int32) &&& 31).toUInt32).toInt32) &&& (3 : Int32))), .val (.int v6), .val (.ref b3_8), .val (.ref b3_8), .val (.ref b3_657), .val (.ref b3_663), .val (.ref b675), .unset, .unset, .unset]) rfl ?_
            refine aw1 X686 hx (hb hby at_173) rfl rfl ?_
            refine aw1 X686 hx (hb hby at_175) rfl rfl ?_
            refine az1 X686 hx hZ (y := (⟨z_s1, "enter", z_s7⟩ : MethodName)) (z := (⟨z_s1, "enter", z_s7⟩ : MethodName)) hown (z_w hw 40 rfl) (z_w hw 41 rfl) (notFace_of_selects (args := #[]) (mvT hZ (z_w hw 43 rfl))) (z_w hw 43 rfl) (z_w hw 42 rfl) (z_w hw 28 rfl) (z_w hw 44 rfl) f0_686 (cg2 l Z a0 hw [] b675 b3_663 b2_686 T686.heap n0 (Nat.le_trans Z0 K686.1) f0_686 f1_686 f2_686 f3_686 f4_686 bb7 cs8 ne699) 0 rfl hml' (argsL := [(.ref b3_663)]) (rest := []) (lenOf ai1 rfl) (hb hby at_177) (fun r700 T700 L700 X700 hQ700 => ?_)
            obtain ⟨b6_700, b2_9_700, b2_4_9_700, b7_4_9_700, b15_4_9_700, rfl, Nq700, Kq700, bo1, em6, bb0, cg5, ar8, cz3, as8, cq0, au7, cc3, ba1, bc0, bc8, am6, ah5, bd2, as9, bn7, bn6, bp1, f0_700, f1_700, f2_700, f3_700, f4_700, f5_700, f6_700, f7_700, f8_700, f9_700, f10_700, f11_700, f12_700, f13_700, f14_700, f15_700, f16_700, f17_700, f18_700⟩ := hQ700
            have N700 := Fr.app N686 Nq700
            have G701 := (G687.keep Kq686 (ninS ne676 nin0))
            have ne702 := z_nc G701.lt bo1
            have ne703 := z_nc G701.lt bb0
            have ne704 := z_nc G701.lt ar8
            have ne705 := z_nc G701.lt as8
            have ne706 := z_nc G701.lt au7
            have G707 := (G689.keep Kq686 (ninS ne678 nin0))
            have ne708 := z_nc G707.lt bo1
            have ne709 := z_nc G707.lt bb0
            have ne710 := z_nc G707.lt ar8
            have ne711 := z_nc G707.lt as8
            have ne712 := z_nc G707.lt au7
            have G713 := (G691.keep Kq686 (ninS ne679 nin0))
            have ne714 := z_nc G713.lt bo1
            have ne715 := z_nc G713.lt bb0
            have ne716 := z_nc G713.lt ar8
            have ne717 := z_nc G713.lt as8
            have ne718 := z_nc G713.lt au7
            have ne719 := z_nc f4_686.lt bo1
            have ne720 := z_nc f4_686.lt bb0
            have ne721 := z_nc f4_686.lt ar8
            have ne722 := z_nc f4_686.lt as8
            have ne723 := z_nc f4_686.lt au7
            have G724 := (G693.keep Kq686)
            have ne725 := z_nc G724.lt bo1
            have ne726 := z_nc G724.lt bb0
            have ne727 := z_nc G724.lt ar8
            have ne728 := z_nc G724.lt as8
            have ne729 := z_nc G724.lt au7
            have G730 := (G695.keep Kq686)
            have ne731 := z_nc G730.lt bo1
            have ne732 := z_nc G730.lt bb0
            have ne733 := z_nc G730.lt ar8
            have ne734 := z_nc G730.lt as8
            have ne735 := z_nc G730.lt au7
            have G736 := (G697.keep Kq686)
            have ne737 := z_nc G736.lt bo1
            have ne738 := z_nc G736.lt bb0
            have ne739 := z_nc G736.lt ar8
            have ne740 := z_nc G736.lt as8
            have ne741 := z_nc G736.lt au7
            have ne742 := z_nc f0_686.lt bo1
            have ne743 := z_nc f0_686.lt bb0
            have ne744 := z_nc f0_686.lt ar8
            have ne745 := z_nc f0_686.lt as8
            have ne746 := z_nc f0_686.lt au7
            have ef7 := Nat.le_trans K686.1 bo1
            have cx6 := Nat.le_trans K686.1 bb0
            have cs4 := Nat.le_trans K686.1 ar8
            have ct1 := Nat.le_trans K686.1 as8
            have c4 := Nat.le_trans K686.1 au7
            have K700 := Keep.trans K686 Kq700 (allS (Or.inr bk8) (allS (Or.inr dc0) all0))
            show aa0 p e below P (T700.setTop (mkF m 180 #[.val (.int p0), .val (.int p1), .val (.int p2), .val (.int p3), .val (.int p4), .val (.int cr), .val (.int ca), .val (.int v2), .val (.int (((p4.toUInt32 >>> ((2 : Int32) &&& 31).toUInt32).toInt32) &&& (3 : Int32))), .val (.int v6), .val (.ref b3_8), .val (.ref b3_8), .val (.ref b3_657), .val (.ref b3_663), .val (.ref b675), .unset, .unset, .unset] []))
            refine aw1 X700 hx (hb hby at_180) rfl rfl ?_
            refine aw1 X700 hx (hb hby at_182) rfl rfl ?_
            have G748 := (G736.keep Kq700)
            have G749 := (((((f1_8.keep Kq657 nin0).keep Kq663 nin0).ext E675).keep Kq686 (ninS ne684 nin0)).keep Kq700 (ninS ne684 (ninS ne698 nin0)))
            have G750 := (((((f2_8.keep Kq657 nin0).keep Kq663 nin0).ext E675).keep Kq686 (ninS ne684 nin0)).keep Kq700 (ninS ne684 (ninS ne698 nin0)))
            have G751 := (((((f3_8.keep Kq657 nin0).keep Kq663 nin0).ext E675).keep Kq686 (ninS ne684 nin0)).keep Kq700 (ninS ne684 (ninS ne698 nin0)))
            have G752 := (((((f4_8.keep Kq657 nin0).keep Kq663 nin0).ext E675).keep Kq686 (ninS ne684 nin0)).keep Kq700 (ninS ne684 (ninS ne698 nin0)))
            have G753 := (ad2 (ad2 ((ad2 G664 Kq663 all0).ext E675) Kq686 (allS (aw3 A675) all0)) Kq700 (allS (aw3 f0_686) (allS (ak9 f4_686) all0)))
            have G754 := (G713.keep Kq700 (ninS ne679 (ninS ne692 nin0)))
            refine az1 X700 hx hZ (y := (⟨z_s1, "enter", z_s7⟩ : MethodName)) (z := (⟨z_s1, "enter", z_s7⟩ : MethodName)) hown (z_w hw 40 rfl) (z_w hw 41 rfl) (notFace_of_selects (args := #[]) (mvT hZ (z_w hw 43 rfl))) (z_w hw 43 rfl) (z_w hw 42 rfl) (z_w hw 28 rfl) (z_w hw 44 rfl) f0_700 (ch2 l Z a0 hw [] b675 b3_8 b6_700 ((List.replicate 16 Value.null).set 0 (.ref b6_700)) (nar .byte (ca.toInt8.toInt32)) (List.replicate 16 Value.null) (List.replicate 16 (0 : Int32)) (List.replicate 16 (0 : Int32)) (0 : Int32) b2_686 b2_9_700 b2_4_9_700 b7_4_9_700 b15_4_9_700 (0 : Int32) (0 : Int32) b1_4_8 ab0 T700.heap n0 (Nat.le_trans Z0 K700.1) f0_700 f5_700 f9_700 G748 f1_700 f2_700 f3_700 f6_700 f10_700 f11_700 f12_700 f13_700 f14_700 f15_700 G749 G750 G751 G752 G753 f4_700 f16_700 f17_700 f18_700 G754 bb7 cs8 cg5 cz3 cq0 cc3 cm0 ne699 ne743 ne744 ne745 ne746 ne684.symm ne720 ne721 ne722 ne723 ne698.symm bc8 ah5 bn7 ne738.symm bd2 bn6 ne739.symm bp1 ne740.symm ne741.symm ne742 ne679.symm ne719 ne692.symm ba1.symm ne715.symm bc0.symm ne716.symm am6.symm ne717.symm as9.symm ne718.symm ne737 am7 hnz (by simp only [ap3, ae3, aq3, List.length_set, List.length_replicate]) (by simp only [ap3, ae3, aq3, List.length_set, List.length_replicate]) (by simp only [ap3, ae3, aq3, List.length_set, List.length_replicate]) (Or.inl rfl) (ch0 _) rfl rfl (by rfl)) 0 rfl hml' (argsL := [(.ref b3_8)]) (rest := []) (lenOf ai1 rfl) (hb hby at_184) (fun r747 T747 L747 X747 hQ747 => ?_)
            obtain ⟨b13_747, b2_26_747, rfl, Nq747, Kq747, ay6, cy6, aw5, ct4, by9, f0_747, f1_747, f2_747, f3_747, f4_747, f5_747, f6_747, f7_747, f8_747, f9_747, f10_747, f11_747, f12_747, f13_747, f14_747, f15_747, f16_747, f17_747, f18_747, f19_747, f20_747, f21_747, f22_747, f23_747, f24_747, f25_747, f26_747⟩ := hQ747
            have N747 := Fr.app N700 Nq747
            have ne755 := z_nc f18_700.lt ay6
            have ne756 := z_nc f18_700.lt aw5
            have G757 := (G701.keep Kq700 (ninS ne676 (ninS ne688 nin0)))
            have ne758 := z_nc G757.lt ay6
            have ne759 := z_nc G757.lt aw5
            have G760 := (G707.keep Kq700 (ninS ne678 (ninS ne690 nin0)))
            have ne761 := z_nc G760.lt ay6
            have ne762 := z_nc G760.lt aw5
            have ne763 := z_nc G754.lt ay6
            have ne764 := z_nc G754.lt aw5
            have ne765 := z_nc f16_700.lt ay6
            have ne766 := z_nc f16_700.lt aw5
            have ne767 := z_nc f4_700.lt ay6
            have ne768 := z_nc f4_700.lt aw5
            have ne769 := z_nc f9_700.lt ay6
            have ne770 := z_nc f9_700.lt aw5
            have G771 := (G724.keep Kq700)
            have ne772 := z_nc G771.lt ay6
            have ne773 := z_nc G771.lt aw5
            have G774 := (G730.keep Kq700)
            have ne775 := z_nc G774.lt ay6
            have ne776 := z_nc G774.lt aw5
            have ne777 := z_nc G748.lt ay6
            have ne778 := z_nc G748.lt aw5
            have ne779 := z_nc f0_700.lt ay6
            have ne780 := z_nc f0_700.lt aw5
            have ne781 := z_nc f5_700.lt ay6
            have ne782 := z_nc f5_700.lt aw5
            have ne783 := z_nc f17_700.lt ay6
            have ne784 := z_nc f17_700.lt aw5
            have ct8 := Nat.le_trans K700.1 ay6
            have ch5 := Nat.le_trans K700.1 aw5
            have K747 := Keep.trans K700 Kq747 (allS (Or.inr bk8) (allS (Or.inr dc0) (allS (Or.inr cx6) (allS (Or.inr cs4) (allS (Or.inr ct1) (allS (Or.inr c4) (allS (Or.inr cj2) all0)))))))
            show aa0 p e below P (T747.setTop (mkF m 187 #[.val (.int p0), .val (.int p1), .val (.int p2), .val (.int p3), .val (.int p4), .val (.int cr), .val (.int ca), .val (.int v2), .val (.int (((p4.toUInt32 >>> ((2 : Int32) &&& 31).toUInt32).toInt32) &&& (3 : Int32))), .val (.int v6), .val (.ref b3_8), .val (.ref b3_8), .val (.ref b3_657), .val (.ref b3_663), .val (.ref b675), .unset, .unset, .unset] []))
            refine aw1 X747 hx (hb hby at_187) rfl rfl ?_
            refine az1 X747 hx hZ (y := (⟨z_s1, "leave", "()V"⟩ : MethodName)) (z := (⟨z_s1, "leave", "()V"⟩ : MethodName)) hown (z_w hw 119 rfl) (z_w hw 120 rfl) (notFace_of_selects (args := #[]) (mvT hZ (z_w hw 122 rfl))) (z_w hw 122 rfl) (z_w hw 121 rfl) (z_w hw 28 rfl) (z_w hw 123 rfl) f0_747 (az8 l Z a0 hw [] b675 b2_686 T747.heap n0 (Nat.le_trans Z0 K747.1) f0_747 f3_747 f4_747 f5_747 bb7) 0 rfl hml' (argsL := []) (rest := []) (lenOf as2 rfl) (hb hby at_189) (fun r785 T785 L785 X785 hQ785 => ?_)
            obtain ⟨rfl, Nq785, Kq785, f0_785, f1_785, f2_785, f3_785⟩ := hQ785
            have N785 := Fr.app N747 Nq785
            have K785 := Keep.trans K747 Kq785 (allS (Or.inr bk8) all0)
            show aa0 p e below P (T785.setTop (mkF m 192 #[.val (.int p0), .val (.int p1), .val (.int p2), .val (.int p3), .val (.int p4), .val (.int cr), .val (.int ca), .val (.int v2), .val (.int (((p4.toUInt32 >>> ((2 : Int32) &&& 31).toUInt32).toInt32) &&& (3 : Int32))), .val (.int v6), .val (.ref b3_8), .val (.ref b3_8), .val (.ref b3_657), .val (.ref b3_663), .val (.ref b675), .unset, .unset, .unset] []))
            refine aw1 X785 hx (hb hby at_192) rfl rfl ?_
            refine aw1 X785 hx (hb hby at_194) rfl rfl ?_
            have G787 := ((f5_700.keep Kq747).keep Kq785)
            have G788 := (f1_747.keep Kq785)
            have G789 := (f20_747.keep Kq785)
            have G790 := (f24_747.keep Kq785)
            have G791 := ((f6_700.keep Kq747 (ninS ne742.symm (ninS ne719.symm (ninS ba1 (ninS bc0 (ninS am6 (ninS as9 (ninS ne737.symm nin0)))))))).keep Kq785 (ninS ne742.symm nin0))
            have G792 := (f21_747.keep Kq785 (ninS ne779.symm nin0))
            have G793 := (f22_747.keep Kq785 (ninS ne779.symm nin0))
            have G794 := (f23_747.keep Kq785 (ninS ne779.symm nin0))
            have G795 := (f25_747.keep Kq785 (ninS ne780.symm nin0))
            have G796 := (f26_747.keep Kq785 (ninS ne780.symm nin0))
            have G797 := (f7_747.keep Kq785 (ninS ne743.symm nin0))
            have G798 := (f10_747.keep Kq785 (ninS ne743.symm nin0))
            have G799 := (f11_747.keep Kq785 (ninS ne743.symm nin0))
            have G800 := (f16_747.keep Kq785 (ninS ne699.symm nin0))
            have G801 := (f18_747.keep Kq785 (ninS ne745.symm nin0))
            refine az1 X785 hx hZ (y := (⟨z_s1, "enter", z_s7⟩ : MethodName)) (z := (⟨z_s1, "enter", z_s7⟩ : MethodName)) hown (z_w hw 40 rfl) (z_w hw 41 rfl) (notFace_of_selects (args := #[]) (mvT hZ (z_w hw 43 rfl))) (z_w hw 43 rfl) (z_w hw 42 rfl) (z_w hw 28 rfl) (z_w hw 44 rfl) f0_785 (ci2 l Z a0 hw [] b675 b3_8 b6_700 b13_747 (((List.replicate 16 Value.null).set 0 (.ref b6_700)).set 1 (.ref b13_747)) (ai3 false (List.replicate 16 (0 : Int32)) (ah0 (ac0 (nar .byte (ca.toInt8.toInt32)))) (0 : Int32)) (1 : Int32) b2_686 b2_9_700 b2_26_747 b3_8 (ax0 false (0 : Int32)) b7_4_9_700 (ac0 (nar .byte (ca.toInt8.toInt32))) T785.heap n0 (Nat.le_trans Z0 K785.1) f0_785 G787 G788 G789 G790 f1_785 f2_785 f3_785 G791 G792 G793 G794 G795 G796 G797 G798 G799 G800 G801 bb7 cy6 ct4 cq0 ne779 ne780 ne745 by9 ne783.symm ne784.symm ne742 ne743 ne699 ne781.symm ne769.symm ne767.symm ne782.symm ne770.symm ne768.symm am6.symm ah5.symm ne722.symm (ay4 _) (bs4 _) rfl rfl (by rfl)) 0 rfl hml' (argsL := [(.ref b3_8)]) (rest := []) (lenOf ai1 rfl) (hb hby at_196) (fun r786 T786 L786 X786 hQ786 => ?_)
            obtain ⟨rfl, Nq786, Kq786, f0_786, f1_786, f2_786, f3_786, f4_786, f5_786, f6_786, f7_786, f8_786, f9_786, f10_786, f11_786⟩ := hQ786
            have N786 := Fr.app N785 Nq786
            have K786 := Keep.trans K785 Kq786 (allS (Or.inr bk8) (allS (Or.inr ct8) (allS (Or.inr ch5) (allS (Or.inr ct1) all0))))
            show aa0 p e below P (T786.setTop (mkF m 199 #[.val (.int p0), .val (.int p1), .val (.int p2), .val (.int p3), .val (.int p4), .val (.int cr), .val (.int ca), .val (.int v2), .val (.int (((p4.toUInt32 >>> ((2 : Int32) &&& 31).toUInt32).toInt32) &&& (3 : Int32))), .val (.int v6), .val (.ref b3_8), .val (.ref b3_8), .val (.ref b3_657), .val (.ref b3_663), .val (.ref b675), .unset, .unset, .unset] []))
            refine aw1 X786 hx (hb hby at_199) rfl rfl ?_
            refine az1 X786 hx hZ (y := (⟨z_s1, "leave", "()V"⟩ : MethodName)) (z := (⟨z_s1, "leave", "()V"⟩ : MethodName)) hown (z_w hw 119 rfl) (z_w hw 120 rfl) (notFace_of_selects (args := #[]) (mvT hZ (z_w hw 122 rfl))) (z_w hw 122 rfl) (z_w hw 121 rfl) (z_w hw 28 rfl) (z_w hw 123 rfl) f0_786 (az8 l Z a0 hw [] b675 b2_686 T786.heap n0 (Nat.le_trans Z0 K786.1) f0_786 f3_786 f4_786 f5_786 bb7) 0 rfl hml' (argsL := []) (rest := []) (lenOf as2 rfl) (hb hby at_201) (fun r802 T802 L802 X802 hQ802 => ?_)
            obtain ⟨rfl, Nq802, Kq802, f0_802, f1_802, f2_802, f3_802⟩ := hQ802
            have N802 := Fr.app N786 Nq802
            have K802 := Keep.trans K786 Kq802 (allS (Or.inr bk8) all0)
            show aa0 p e below P (T802.setTop (mkF m 204 #[.val (.int p0), .val (.int p1), .val (.int p2), .val (.int p3), .val (.int p4), .val (.int cr), .val (.int ca), .val (.int v2), .val (.int (((p4.toUInt32 >>> ((2 : Int32) &&& 31).toUInt32).toInt32) &&& (3 : Int32))), .val (.int v6), .val (.ref b3_8), .val (.ref b3_8), .val (.ref b3_657), .val (.ref b3_663), .val (.ref b675), .unset, .unset, .unset] []))
            refine aw1 X802 hx (hb hby at_204) rfl rfl ?_
            refine aw1 X802 hx (hb hby at_206) rfl rfl ?_
            obtain ⟨j803, hp803⟩ := cd4 b3_8 (nar .byte (ca.toInt8.toInt32)) (nar .byte (v6.toInt8.toInt32)) (2 : Int32) ((ai3 false (List.replicate 16 (0 : Int32)) (ah0 (ac0 (nar .byte (ca.toInt8.toInt32)))) (0 : Int32)).set (ah0 (ac0 (nar .byte (ca.toInt8.toInt32)))) ((1 : Int32) + (1 : Int32))) (cp2 (by simp only [ae3, List.length_replicate]; exact a5 _))
            have G805 := ((G787.keep Kq786).keep Kq802)
            have G806 := ((G788.keep Kq786).keep Kq802)
            have G807 := (f1_786.keep Kq802)
            have G808 := (f2_786.keep Kq802)
            have G809 := ((((G771.keep Kq747).keep Kq785).keep Kq786).keep Kq802)
            have G810 := (((f2_747.keep Kq785).keep Kq786).keep Kq802)
            have G811 := ((G791.keep Kq786 (ninS ne742.symm (ninS ne781 (ninS ne782 (ninS am6 nin0))))).keep Kq802 (ninS ne742.symm nin0))
            have G812 := (f6_786.keep Kq802 (ninS ne779.symm nin0))
            have G813 := (f7_786.keep Kq802 (ninS ne779.symm nin0))
            have G814 := (f8_786.keep Kq802 (ninS ne779.symm nin0))
            have G815 := (f9_786.keep Kq802 (ninS ne780.symm nin0))
            have G816 := (f10_786.keep Kq802 (ninS ne780.symm nin0))
            have G817 := (((f6_747.keep Kq785 (ninS ne743.symm nin0)).keep Kq786 (ninS ne743.symm (ninS ne769 (ninS ne770 (ninS ah5 nin0))))).keep Kq802 (ninS ne743.symm nin0))
            have G818 := ((G797.keep Kq786 (ninS ne743.symm (ninS ne769 (ninS ne770 (ninS ah5 nin0))))).keep Kq802 (ninS ne743.symm nin0))
            have G819 := (((f8_747.keep Kq785 (ninS ne743.symm nin0)).keep Kq786 (ninS ne743.symm (ninS ne769 (ninS ne770 (ninS ah5 nin0))))).keep Kq802 (ninS ne743.symm nin0))
            have G820 := (((f9_747.keep Kq785 (ninS ne743.symm nin0)).keep Kq786 (ninS ne743.symm (ninS ne769 (ninS ne770 (ninS ah5 nin0))))).keep Kq802 (ninS ne743.symm nin0))
            have G821 := ((G798.keep Kq786 (ninS ne743.symm (ninS ne769 (ninS ne770 (ninS ah5 nin0))))).keep Kq802 (ninS ne743.symm nin0))
            have G822 := ((G799.keep Kq786 (ninS ne743.symm (ninS ne769 (ninS ne770 (ninS ah5 nin0))))).keep Kq802 (ninS ne743.symm nin0))
            have G823 := ((((((((f1_657.keep Kq663 nin0).ext E675).keep Kq686 (ninS ne681 nin0)).keep Kq700 (ninS ne681 (ninS ne694 nin0))).keep Kq747 (ninS ne681 (ninS ne694 (ninS ne726 (ninS ne727 (ninS ne728 (ninS ne729 (ninS ne661.symm nin0)))))))).keep Kq785 (ninS ne681 nin0)).keep Kq786 (ninS ne681 (ninS ne772 (ninS ne773 (ninS ne728 nin0))))).keep Kq802 (ninS ne681 nin0))
            have G824 := ((((((((f2_657.keep Kq663 nin0).ext E675).keep Kq686 (ninS ne681 nin0)).keep Kq700 (ninS ne681 (ninS ne694 nin0))).keep Kq747 (ninS ne681 (ninS ne694 (ninS ne726 (ninS ne727 (ninS ne728 (ninS ne729 (ninS ne661.symm nin0)))))))).keep Kq785 (ninS ne681 nin0)).keep Kq786 (ninS ne681 (ninS ne772 (ninS ne773 (ninS ne728 nin0))))).keep Kq802 (ninS ne681 nin0))
            have G825 := ((((((((f3_657.keep Kq663 nin0).ext E675).keep Kq686 (ninS ne681 nin0)).keep Kq700 (ninS ne681 (ninS ne694 nin0))).keep Kq747 (ninS ne681 (ninS ne694 (ninS ne726 (ninS ne727 (ninS ne728 (ninS ne729 (ninS ne661.symm nin0)))))))).keep Kq785 (ninS ne681 nin0)).keep Kq786 (ninS ne681 (ninS ne772 (ninS ne773 (ninS ne728 nin0))))).keep Kq802 (ninS ne681 nin0))
            have G826 := ((((((((f4_657.keep Kq663 nin0).ext E675).keep Kq686 (ninS ne681 nin0)).keep Kq700 (ninS ne681 (ninS ne694 nin0))).keep Kq747 (ninS ne681 (ninS ne694 (ninS ne726 (ninS ne727 (ninS ne728 (ninS ne729 (ninS ne661.symm nin0)))))))).keep Kq785 (ninS ne681 nin0)).keep Kq786 (ninS ne681 (ninS ne772 (ninS ne773 (ninS ne728 nin0))))).keep Kq802 (ninS ne681 nin0))
            have G827 := (((f12_747.keep Kq785 (ninS ne684 nin0)).keep Kq786 (ninS ne684 (ninS ne777 (ninS ne778 (ninS ne740 nin0))))).keep Kq802 (ninS ne684 nin0))
            have G828 := (((f13_747.keep Kq785 (ninS ne684 nin0)).keep Kq786 (ninS ne684 (ninS ne777 (ninS ne778 (ninS ne740 nin0))))).keep Kq802 (ninS ne684 nin0))
            have G829 := (ad2 (ad2 (ad2 (ad2 G753 Kq747 (allS (aw3 f0_700) (allS (ak9 f4_700) (allS (aw3 f9_700) (allS (ak9 f16_700) (allS (bs1 f17_700) (allS (bs1 f18_700) (allS (aw3 G748) all0)))))))) Kq785 (allS (aw3 f0_747) all0)) Kq786 (allS (aw3 f0_785) (allS (aw3 G789) (allS (aw3 G790) (allS (bs1 G801) all0))))) Kq802 (allS (aw3 f0_786) all0))
            have G830 := ((G800.keep Kq786 (ninS ne699.symm (ninS ne767 (ninS ne768 (ninS ne722 nin0))))).keep Kq802 (ninS ne699.symm nin0))
            have G831 := (((f17_747.keep Kq785 (ninS ne744.symm nin0)).keep Kq786 (ninS ne744.symm (ninS ne765 (ninS ne766 (ninS bd2 nin0))))).keep Kq802 (ninS ne744.symm nin0))
            have G832 := (f11_786.keep Kq802 (ninS ne745.symm nin0))
            have G833 := (((f19_747.keep Kq785 (ninS ne746.symm nin0)).keep Kq786 (ninS ne746.symm (ninS ne755 (ninS ne756 (ninS bp1.symm nin0))))).keep Kq802 (ninS ne746.symm nin0))
            have G834 := ((((G757.keep Kq747 (ninS ne676 (ninS ne688 (ninS ne703 (ninS ne704 (ninS ne705 (ninS ne706 (ninS ne662.symm nin0)))))))).keep Kq785 (ninS ne676 nin0)).keep Kq786 (ninS ne676 (ninS ne758 (ninS ne759 (ninS ne705 nin0))))).keep Kq802 (ninS ne676 nin0))
            have G835 := ((((G754.keep Kq747 (ninS ne679 (ninS ne692 (ninS ne715 (ninS ne716 (ninS ne717 (ninS ne718 (ninS am7.symm nin0)))))))).keep Kq785 (ninS ne679 nin0)).keep Kq786 (ninS ne679 (ninS ne763 (ninS ne764 (ninS ne717 nin0))))).keep Kq802 (ninS ne679 nin0))
            refine az1 X802 hx hZ (y := (⟨z_s1, "enter", z_s7⟩ : MethodName)) (z := (⟨z_s1, "enter", z_s7⟩ : MethodName)) hown (z_w hw 40 rfl) (z_w hw 41 rfl) (notFace_of_selects (args := #[]) (mvT hZ (z_w hw 43 rfl))) (z_w hw 43 rfl) (z_w hw 42 rfl) (z_w hw 28 rfl) (z_w hw 44 rfl) f0_802 (cp5 l Z a0 hw [] b675 b3_657 b6_700 b13_747 (((List.replicate 16 Value.null).set 0 (.ref b6_700)).set 1 (.ref b13_747)) (nar .byte (v6.toInt8.toInt32)) (ap4 false (List.replicate 16 Value.null) (ah0 (ac0 (nar .byte (ca.toInt8.toInt32)))) b3_8) ((ai3 false (List.replicate 16 (0 : Int32)) (ah0 (ac0 (nar .byte (ca.toInt8.toInt32)))) (0 : Int32)).set (ah0 (ac0 (nar .byte (ca.toInt8.toInt32)))) ((1 : Int32) + (1 : Int32))) (ap6 false (List.replicate 16 (0 : Int32)) (ah0 (0 : Int32)) (ac0 (nar .byte (ca.toInt8.toInt32)))) (2 : Int32) (decide ((nar .byte (ca.toInt8.toInt32)) = (nar .byte (v6.toInt8.toInt32)))) j803 b3_8 (nar .byte (ca.toInt8.toInt32)) b2_686 b2_9_700 b2_26_747 b3_8 (2 : Int32) b2_4_9_700 b7_4_9_700 b15_4_9_700 (ac5 false (0 : Int32)) (ac0 (nar .byte (ca.toInt8.toInt32))) b1_4_657 b1_4_8 ab0 T802.heap n0 (Nat.le_trans Z0 K802.1) f0_802 G805 G806 G807 G808 G809 G810 f1_802 f2_802 f3_802 G811 G812 G813 G814 G815 G816 G817 G818 G819 G820 G821 G822 G823 G824 G825 G826 G827 G828 G829 G830 G831 G832 G833 G834 G835 bb7 cy6 ct4 cg5 cz3 cq0 cc3 dv7 ne779 ne780 ne743 ne744 ne745 ne746 ne681.symm by9 ne769.symm ne765.symm ne783.symm ne755.symm ne772.symm ne770.symm ne766.symm ne784.symm ne756.symm ne773.symm bc8 ah5 bn7 ne726.symm bd2 bn6 ne727.symm bp1 ne728.symm ne729.symm ne742 ne684.symm ne699 ne676.symm ne679.symm ne781.symm ne777.symm ne767.symm ne758.symm ne763.symm ne782.symm ne778.symm ne768.symm ne759.symm ne764.symm ba1.symm ne738.symm ne720.symm ne703.symm ne715.symm bc0.symm ne739.symm ne721.symm ne704.symm ne716.symm am6.symm ne740.symm ne722.symm ne705.symm ne717.symm as9.symm ne741.symm ne723.symm ne706.symm ne718.symm ne725 ne661.symm ne694 cf5 ne659.symm hnz (by simp only [ap3, ae3, aq3, List.length_set, List.length_replicate]) (by simp only [ap3, ae3, aq3, List.length_set, List.length_replicate]) (by simp only [ap3, ae3, aq3, List.length_set, List.length_replicate]) ce4 hp803 rfl rfl (by rfl)) 0 rfl hml' (argsL := [(.ref b3_657)]) (rest := []) (lenOf ai1 rfl) (hb hby at_208) (fun r804 T804 L804 X804 hQ804 => ?_)
            obtain ⟨rfl, Nq804, Kq804, f0_804, f1_804, f2_804, f3_804, f4_804, f5_804, f6_804, f7_804, f8_804, f9_804, f10_804, f11_804, f12_804, f13_804, f14_804, f15_804, f16_804, f17_804, f18_804, f19_804, f20_804, f21_804, f22_804, f23_804, f24_804, f25_804⟩ := hQ804
            have N804 := Fr.app N802 Nq804
            have K804 := Keep.trans K802 Kq804 (allS (Or.inr bk8) (allS (Or.inr ct8) (allS (Or.inr ch5) (allS (Or.inr cx6) (allS (Or.inr cs4) (allS (Or.inr ct1) (allS (Or.inr c4) (allS (Or.inr ep1) all0))))))))
            show aa0 p e below P (T804.setTop (mkF m 211 #[.val (.int p0), .val (.int p1), .val (.int p2), .val (.int p3), .val (.int p4), .val (.int cr), .val (.int ca), .val (.int v2), .val (.int (((p4.toUInt32 >>> ((2 : Int32) &&& 31).toUInt32).toInt32) &&& (3 : Int32))), .val (.int v6), .val (.ref b3_8), .val (.ref b3_8), .val (.ref b3_657), .val (.ref b3_663), .val (.ref b675), .unset, .unset, .unset] []))
            refine aw1 X804 hx (hb hby at_211) rfl rfl ?_
            have G837 := (G830.keep Kq804 (ninS ne699.symm (ninS ne767 (ninS ne768 (ninS ne720 (ninS ne721 (ninS ne722 (ninS ne723 (ninS ne694.symm nin0)))))))))
            refine az1 X804 hx hZ (y := (⟨z_s1, "index", "()I"⟩ : MethodName)) (z := (⟨z_s1, "index", "()I"⟩ : MethodName)) hown (z_w hw 132 rfl) (z_w hw 133 rfl) (notFace_of_selects (args := #[]) (mvT hZ (z_w hw 135 rfl))) (z_w hw 135 rfl) (z_w hw 134 rfl) (z_w hw 28 rfl) (z_w hw 136 rfl) f0_804 (ck0 l Z a0 hw [] b675 b13_747 (((List.replicate 16 Value.null).set 0 (.ref b6_700)).set 1 (.ref b13_747)) b2_686 (ax0 (decide ((nar .byte (ca.toInt8.toInt32)) = (nar .byte (v6.toInt8.toInt32)))) (2 : Int32)) T804.heap n0 (Nat.le_trans Z0 K804.1) f5_804 f6_804 f10_804 G837 rfl) 0 rfl hml' (argsL := []) (rest := []) (lenOf au4 rfl) (hb hby at_213) (fun r836 T836 L836 X836 hQ836 => ?_)
            obtain ⟨rfl, Nq836, eq836⟩ := hQ836
            have N836 := Fr.app N804 Nq836
            show aa0 p e below P (T836.setTop (mkF m 216 #[.val (.int p0), .val (.int p1), .val (.int p2), .val (.int p3), .val (.int p4), .val (.int cr), .val (.int ca), .val (.int v2), .val (.int (((p4.toUInt32 >>> ((2 : Int32) &&& 31).toUInt32).toInt32) &&& (3 : Int32))), .val (.int v6), .val (.ref b3_8), .val (.ref b3_8), .val (.ref b3_657), .val (.ref b3_663), .val (.ref b675), .unset, .unset, .unset] [(.int (ax0 (decide ((nar .byte (ca.toInt8.toInt32)) = (nar .byte (v6.toInt8.toInt32)))) (2 : Int32)))]))
            refine as4 X836 hx (hb hby at_216) (l' := #[.val (.int p0), .val (.int p1), .val (.int p2), .val (.int p3), .val (.int p4), .val (.int cr), .val (.int ca), .val (.int v2), .val (.int (((p4.toUInt32 >>> ((2 : Int32) &&& 31).toUInt32).toInt32) &&& (3 : Int32))), .val (.int v6), .val (.ref b3_8), .val (.ref b3_8), .val (.ref b3_657), .val (.ref b3_663), .val (.ref b675), .val (.int (ax0 (decide ((nar .byte (ca.toInt8.toInt32)) = (nar .byte (v6.toInt8.toInt32)))) (2 : Int32))), .unset, .unset]) rfl ?_
            refine aw1 X836 hx (hb hby at_218) rfl rfl ?_
            refine az1 X836 hx hZ (y := (⟨z_s1, "leave", "()V"⟩ : MethodName)) (z := (⟨z_s1, "leave", "()V"⟩ : MethodName)) hown (z_w hw 119 rfl) (z_w hw 120 rfl) (notFace_of_selects (args := #[]) (mvT hZ (z_w hw 122 rfl))) (z_w hw 122 rfl) (z_w hw 121 rfl) (z_w hw 28 rfl) (z_w hw 123 rfl) f0_804 (az8 l Z a0 hw [] b675 b2_686 T804.heap n0 (Nat.le_trans Z0 K804.1) f0_804 f5_804 f6_804 f7_804 bb7) 0 eq836 hml' (argsL := []) (rest := []) (lenOf as2 rfl) (hb hby at_220) (fun r838 T838 L838 X838 hQ838 => ?_)
            obtain ⟨rfl, Nq838, Kq838, f0_838, f1_838, f2_838, f3_838⟩ := hQ838
            have N838 := Fr.app N836 Nq838
            have K838 := Keep.trans K804 Kq838 (allS (Or.inr bk8) all0)
            show aa0 p e below P (T838.setTop (mkF m 223 #[.val (.int p0), .val (.int p1), .val (.int p2), .val (.int p3), .val (.int p4), .val (.int cr), .val (.int ca), .val (.int v2), .val (.int (((p4.toUInt32 >>> ((2 : Int32) &&& 31).toUInt32).toInt32) &&& (3 : Int32))), .val (.int v6), .val (.ref b3_8), .val (.ref b3_8), .val (.ref b3_657), .val (.ref b3_663), .val (.ref b675), .val (.int (ax0 (decide ((nar .byte (ca.toInt8.toInt32)) = (nar .byte (v6.toInt8.toInt32)))) (2 : Int32))), .unset, .unset] []))
            refine aw1 X838 hx (hb hby at_223) rfl rfl ?_
            have G840 := ((((((f8_700.keep Kq747 (ninS ne742.symm (ninS ne719.symm (ninS ba1 (ninS bc0 (ninS am6 (ninS as9 (ninS ne737.symm nin0)))))))).keep Kq785 (ninS ne742.symm nin0)).keep Kq786 (ninS ne742.symm (ninS ne781 (ninS ne782 (ninS am6 nin0))))).keep Kq802 (ninS ne742.symm nin0)).keep Kq804 (ninS ne742.symm (ninS ne781 (ninS ne782 (ninS ba1 (ninS bc0 (ninS am6 (ninS as9 (ninS ne725.symm nin0))))))))).keep Kq838 (ninS ne742.symm nin0))
            have G841 := (G837.keep Kq838 (ninS ne699.symm nin0))
            refine az1 X838 hx hZ (y := (⟨z_s1, "index", "()I"⟩ : MethodName)) (z := (⟨z_s1, "index", "()I"⟩ : MethodName)) hown (z_w hw 132 rfl) (z_w hw 133 rfl) (notFace_of_selects (args := #[]) (mvT hZ (z_w hw 135 rfl))) (z_w hw 135 rfl) (z_w hw 134 rfl) (z_w hw 28 rfl) (z_w hw 136 rfl) f0_838 (cl0 l Z a0 hw [] b675 b6_700 (((List.replicate 16 Value.null).set 0 (.ref b6_700)).set 1 (.ref b13_747)) b2_686 (1 : Int32) T838.heap n0 (Nat.le_trans Z0 K838.1) f1_838 f2_838 G840 G841 rfl) 0 rfl hml' (argsL := []) (rest := []) (lenOf au4 rfl) (hb hby at_225) (fun r839 T839 L839 X839 hQ839 => ?_)
            obtain ⟨rfl, Nq839, eq839⟩ := hQ839
            have N839 := Fr.app N838 Nq839
            show aa0 p e below P (T839.setTop (mkF m 228 #[.val (.int p0), .val (.int p1), .val (.int p2), .val (.int p3), .val (.int p4), .val (.int cr), .val (.int ca), .val (.int v2), .val (.int (((p4.toUInt32 >>> ((2 : Int32) &&& 31).toUInt32).toInt32) &&& (3 : Int32))), .val (.int v6), .val (.ref b3_8), .val (.ref b3_8), .val (.ref b3_657), .val (.ref b3_663), .val (.ref b675), .val (.int (ax0 (decide ((nar .byte (ca.toInt8.toInt32)) = (nar .byte (v6.toInt8.toInt32)))) (2 : Int32))), .unset, .unset] [(.int (1 : Int32))]))
            refine as4 X839 hx (hb hby at_228) (l' := #[.val (.int p0), .val (.int p1), .val (.int p2), .val (.int p3), .val (.int p4), .val (.int cr), .val (.int ca), .val (.int v2), .val (.int (((p4.toUInt32 >>> ((2 : Int32) &&& 31).toUInt32).toInt32) &&& (3 : Int32))), .val (.int v6), .val (.ref b3_8), .val (.ref b3_8), .val (.ref b3_657), .val (.ref b3_663), .val (.ref b675), .val (.int (ax0 (decide ((nar .byte (ca.toInt8.toInt32)) = (nar .byte (v6.toInt8.toInt32)))) (2 : Int32))), .val (.int (1 : Int32)), .unset]) rfl ?_
            refine az0 X839 hx (hb hby at_230) (z := (1 : Int32)) rfl ?_
            refine ay1 X839 hx (hb hby at_231) rfl ?_
            refine ay1 X839 hx (hb hby at_233) rfl ?_
            have J844 : ∀ v843 : Int32, v843 = (if ca = v6 then (1 : Int32) else (0 : Int32)) → aa0 p e below P (T839.setTop (mkF m 243 #[.val (.int p0), .val (.int p1), .val (.int p2), .val (.int p3), .val (.int p4), .val (.int cr), .val (.int ca), .val (.int v2), .val (.int (((p4.toUInt32 >>> ((2 : Int32) &&& 31).toUInt32).toInt32) &&& (3 : Int32))), .val (.int v6), .val (.ref b3_8), .val (.ref b3_8), .val (.ref b3_657), .val (.ref b3_663), .val (.ref b675), .val (.int (ax0 (decide ((nar .byte (ca.toInt8.toInt32)) = (nar .byte (v6.toInt8.toInt32)))) (2 : Int32))), .val (.int (1 : Int32)), .unset] [(.int v843), (.int (1 : Int32))])) := by
              intro v843 e_v843
              refine ad6 X839 hx (hb hby at_243) (z := ((1 : Int32) + v843)) rfl ?_
              refine ay1 X839 hx (hb hby at_244) rfl ?_
              refine ay1 X839 hx (hb hby at_246) rfl ?_
              have J847 : ∀ v846 : Int32, v846 = (if v2 = v6 then (1 : Int32) else (0 : Int32)) → aa0 p e below P (T839.setTop (mkF m 256 #[.val (.int p0), .val (.int p1), .val (.int p2), .val (.int p3), .val (.int p4), .val (.int cr), .val (.int ca), .val (.int v2), .val (.int (((p4.toUInt32 >>> ((2 : Int32) &&& 31).toUInt32).toInt32) &&& (3 : Int32))), .val (.int v6), .val (.ref b3_8), .val (.ref b3_8), .val (.ref b3_657), .val (.ref b3_663), .val (.ref b675), .val (.int (ax0 (decide ((nar .byte (ca.toInt8.toInt32)) = (nar .byte (v6.toInt8.toInt32)))) (2 : Int32))), .val (.int (1 : Int32)), .unset] [(.int v846), (.int ((1 : Int32) + v843))])) := by
                intro v846 e_v846
                refine ad6 X839 hx (hb hby at_256) (z := (((1 : Int32) + v843) + v846)) rfl ?_
                refine as4 X839 hx (hb hby at_257) (l' := #[.val (.int p0), .val (.int p1), .val (.int p2), .val (.int p3), .val (.int p4), .val (.int cr), .val (.int ca), .val (.int v2), .val (.int (((p4.toUInt32 >>> ((2 : Int32) &&& 31).toUInt32).toInt32) &&& (3 : Int32))), .val (.int v6), .val (.ref b3_8), .val (.ref b3_8), .val (.ref b3_657), .val (.ref b3_663), .val (.ref b675), .val (.int (ax0 (decide ((nar .byte (ca.toInt8.toInt32)) = (nar .byte (v6.toInt8.toInt32)))) (2 : Int32))), .val (.int (1 : Int32)), .val (.int (((1 : Int32) + v843) + v846))]) rfl ?_
                refine ay1 X839 hx (hb hby at_259) rfl ?_
                refine ay1 X839 hx (hb hby at_261) rfl ?_
                have hd848 : (ax0 (decide ((nar .byte (ca.toInt8.toInt32)) = (nar .byte (v6.toInt8.toInt32)))) (2 : Int32)) = (((1 : Int32) + v843) + v846) := by rw [e_v843, e_v846]; exact eb1 Ha Hc hc655
                refine a4 X839 hx (hb hby at_263) (teq hd848).2 ?_
                refine ay1 X839 hx (hb hby at_266) rfl ?_
                refine az0 X839 hx (hb hby at_268) (z := (1 : Int32)) rfl ?_
                refine a4 X839 hx (hb hby at_269) (teq (by decide : (1 : Int32) = (1 : Int32))).2 ?_
                refine az0 X839 hx (hb hby at_272) (z := (1 : Int32)) rfl ?_
                refine ao4 X839 hx (pc' := 277) (hb hby at_273) ?_
                exact bd1 X839 hx hlk hP (t := .boolean) (by simp) hrt (hb hby at_277) (by decide) (by decide) ⟨rfl, N839⟩
              by_cases hc845 : v2 = v6
              · refine a4 X839 hx (hb hby at_248) (teq hc845).2 ?_
                refine az0 X839 hx (hb hby at_251) (z := (1 : Int32)) rfl ?_
                refine ao4 X839 hx (pc' := 256) (hb hby at_252) ?_
                exact J847 _ ((if_pos hc845).trans (rfl)).symm
              · refine au3 X839 hx (pc' := 255) (hb hby at_248) (feq hc845).2 ?_
                refine az0 X839 hx (hb hby at_255) (z := (0 : Int32)) rfl ?_
                exact J847 _ ((if_neg hc845).trans (rfl)).symm
            by_cases hc842 : ca = v6
            · refine a4 X839 hx (hb hby at_235) (teq hc842).2 ?_
              refine az0 X839 hx (hb hby at_238) (z := (1 : Int32)) rfl ?_
              refine ao4 X839 hx (pc' := 243) (hb hby at_239) ?_
              exact J844 _ ((if_pos hc842).trans (rfl)).symm
            · refine au3 X839 hx (pc' := 242) (hb hby at_235) (feq hc842).2 ?_
              refine az0 X839 hx (hb hby at_242) (z := (0 : Int32)) rfl ?_
              exact J844 _ ((if_neg hc842).trans (rfl)).symm
          have Jn849 : aa0 p e below P (T8.setTop (mkF m 128 #[.val (.int p0), .val (.int p1), .val (.int p2), .val (.int p3), .val (.int p4), .val (.int cr), .val (.int ca), .val (.int v2), .val (.int (((p4.toUInt32 >>> ((2 : Int32) &&& 31).toUInt32).toInt32) &&& (3 : Int32))), .val (.int v6), .val (.ref b3_8), .val (.ref b3_8), .unset, .unset, .unset, .unset, .unset, .unset] [])) := by
            refine ay1 X8 hx (hb hby at_128) rfl ?_
            refine bu4 X8 hx (hb hby at_130) (z := (32 : Int32)) rfl ?_
            refine az7 X8 hx (hb hby at_132) (z := (p4 &&& (32 : Int32))) rfl ?_
            by_cases hc850 : (p4 &&& (32 : Int32)) = (0 : Int32)
            · refine al7 X8 hx (pc' := 150) (hb hby at_133) ((if0 _ _).trans (teq hc850).1) ?_
              exact Jn656
            · refine aq7 X8 hx (hb hby at_133) ((if0 _ _).trans (feq hc850).1) ?_
              refine ay1 X8 hx (hb hby at_136) rfl ?_
              refine ay1 X8 hx (hb hby at_138) rfl ?_
              by_cases hc851 : v6 = ca
              · refine a4 X8 hx (hb hby at_140) (teq hc851).2 ?_
                refine aw1 X8 hx (hb hby at_143) rfl rfl ?_
                refine ao6 X8 hx (hb hby at_145) rfl (l' := #[.val (.int p0), .val (.int p1), .val (.int p2), .val (.int p3), .val (.int p4), .val (.int cr), .val (.int ca), .val (.int v2), .val (.int (((p4.toUInt32 >>> ((2 : Int32) &&& 31).toUInt32).toInt32) &&& (3 : Int32))), .val (.int v6), .val (.ref b3_8), .val (.ref b3_8), .val (.ref b3_8), .unset, .unset, .unset, .unset, .unset]) rfl ?_
                refine ao4 X8 hx (pc' := 157) (hb hby at_147) ?_
                refine ay1 X8 hx (hb hby at_157) rfl ?_
                have G853 := (ad2 ar0 Kq8 all0)
                refine as5 X8 hx hZ (y := (⟨z_s2, "valueOf", "(C)Ljava/lang/String;"⟩ : MethodName)) hown (z_w hw 0 rfl) (z_w hw 1 rfl) (z_w hw 2 rfl) (z_w hw 3 rfl) (bd5 l Z a0 hw [] cr ab0 T8.heap n0 (Nat.le_trans Z0 K8.1) G853 hnz (bp3 Hr)) 0 rfl hml' (argsL := [(.int cr)]) (rest := []) (lenOf aj3 rfl) (hb hby at_159) (fun r852 T852 L852 X852 hQ852 => ?_)
                obtain ⟨b3_852, b1_4_852, rfl, Nq852, Kq852, ck4, en6, cu2, eh5, er1, f0_852, f1_852, f2_852, f3_852, f4_852, f5_852⟩ := hQ852
                have N852 := Fr.app N8 Nq852
                have ne854 := z_nc f5_8.lt ck4
                have ne855 := z_nc f5_8.lt cu2
                have ne856 := z_nc f0_8.lt ck4
                have ne857 := z_nc f0_8.lt cu2
                have eg7 := Nat.le_trans K8.1 ck4
                have ew5 := Nat.le_trans K8.1 cu2
                have K852 := Keep.trans K8 Kq852 all0
                show aa0 p e below P (T852.setTop (mkF m 162 #[.val (.int p0), .val (.int p1), .val (.int p2), .val (.int p3), .val (.int p4), .val (.int cr), .val (.int ca), .val (.int v2), .val (.int (((p4.toUInt32 >>> ((2 : Int32) &&& 31).toUInt32).toInt32) &&& (3 : Int32))), .val (.int v6), .val (.ref b3_8), .val (.ref b3_8), .val (.ref b3_8), .unset, .unset, .unset, .unset, .unset] [(.ref b3_852)]))
                refine ao6 X852 hx (hb hby at_162) rfl (l' := #[.val (.int p0), .val (.int p1), .val (.int p2), .val (.int p3), .val (.int p4), .val (.int cr), .val (.int ca), .val (.int v2), .val (.int (((p4.toUInt32 >>> ((2 : Int32) &&& 31).toUInt32).toInt32) &&& (3 : Int32))), .val (.int v6), .val (.ref b3_8), .val (.ref b3_8), .val (.ref b3_8), .val (.ref b3_852), .unset, .unset, .unset, .unset]) rfl ?_
                obtain ⟨T858, h858, X858, e858, E858, A858, D858, -, st858⟩ := newO X852 hx hZ hown (z_w hw 26 rfl) (z_w hw 27 rfl) (z_w hw 28 rfl) rfl (g := (mkF m 164 #[.val (.int p0), .val (.int p1), .val (.int p2), .val (.int p3), .val (.int p4), .val (.int cr), .val (.int ca), .val (.int v2), .val (.int (((p4.toUInt32 >>> ((2 : Int32) &&& 31).toUInt32).toInt32) &&& (3 : Int32))), .val (.int v6), .val (.ref b3_8), .val (.ref b3_8), .val (.ref b3_8), .val (.ref b3_852), .unset, .unset, .unset, .unset] [])) rfl (hb hby at_164) (by decide) (by decide)
                obtain ⟨b858, g858⟩ : ∃ z, z = T852.heap.size := ⟨_, rfl⟩
                rw [← g858] at A858 D858 st858
                have G860 := (f5_8.keep Kq852 nin0)
                have ne859 := z_nb G860.lt g858
                have ne861 := z_nb f5_852.lt g858
                have G863 := (f0_8.keep Kq852)
                have ne862 := z_nb G863.lt g858
                have ne864 := z_nb f0_852.lt g858
                have bc7 : n0 ≤ b858 := Nat.le_trans (Nat.le_trans Z0 K852.1) (Nat.le_of_eq g858.symm)
                have bl8 : h0.size ≤ b858 := Nat.le_trans K852.1 (Nat.le_of_eq g858.symm)
                have K858 := Keep.ext K852 E858
                have dn0 : Fld Z h858 b858 z_s1 "levels" z_s4 .null := D858 (Or.inl (z_w hw 36 rfl)) (ty := (.array (.object z_s3))) (by decide)
                have dq4 : Fld Z h858 b858 z_s1 "path" "[C" .null := D858 (Or.inl (z_w hw 39 rfl)) (ty := (.array .char)) (by decide)
                have dj1 : Fld Z h858 b858 z_s1 "depth" "I" (.int (0 : Int32)) := D858 (Or.inl (z_w hw 46 rfl)) (ty := .int) (by decide)
                have cj9 : Fld Z h858 b858 z_s1 "written" "I" (.int (0 : Int32)) := D858 (Or.inl (z_w hw 87 rfl)) (ty := .int) (by decide)
                refine an1 (fun _ => st858 _) ?_
                show aa0 p e below P (T858.setTop (mkF m 167 #[.val (.int p0), .val (.int p1), .val (.int p2), .val (.int p3), .val (.int p4), .val (.int cr), .val (.int ca), .val (.int v2), .val (.int (((p4.toUInt32 >>> ((2 : Int32) &&& 31).toUInt32).toInt32) &&& (3 : Int32))), .val (.int v6), .val (.ref b3_8), .val (.ref b3_8), .val (.ref b3_8), .val (.ref b3_852), .unset, .unset, .unset, .unset] [(.ref b858)]))
                refine bi0 X858 hx (hb hby at_167) rfl ?_
                refine cb0 X858 hx hZ (y := (⟨z_s1, "<init>", "()V"⟩ : MethodName)) hown (z_w hw 29 rfl) (z_w hw 30 rfl) (z_w hw 28 rfl) (z_w hw 31 rfl) (ce2 l Z a0 hw [] b858  h858 n0 (Nat.le_trans Z0 K858.1) A858 dn0 dq4 dj1 cj9 bc7) 1 e858 hml' (a := b858) (argsL := []) (rest := [(.ref b858)]) (lenOf as2 rfl) (hb hby at_168) (fun r865 T865 L865 X865 hQ865 => ?_)
                obtain ⟨b2_865, rfl, Nq865, Kq865, bk7, cu8, f0_865, f1_865, f2_865, f3_865, f4_865⟩ := hQ865
                have N865 := Fr.app N852 Nq865
                have G866 := (G860.ext E858)
                have ne867 := z_nc G866.lt bk7
                have G868 := (f5_852.ext E858)
                have ne869 := z_nc G868.lt bk7
                have G870 := (G863.ext E858)
                have ne871 := z_nc G870.lt bk7
                have G872 := (f0_852.ext E858)
                have ne873 := z_nc G872.lt bk7
                have ne874 := z_nc A858.lt bk7
                have dd0 := Nat.le_trans K858.1 bk7
                have K865 := Keep.trans K858 Kq865 (allS (Or.inr bl8) all0)
                show aa0 p e below P (T865.setTop (mkF m 171 #[.val (.int p0), .val (.int p1), .val (.int p2), .val (.int p3), .val (.int p4), .val (.int cr), .val (.int ca), .val (.int v2), .val (.int (((p4.toUInt32 >>> ((2 : Int32) &&& 31).toUInt32).toInt32) &&& (3 : Int32))), .val (.int v6), .val (.ref b3_8), .val (.ref b3_8), .val (.ref b3_8), .val (.ref b3_852), .unset, .unset, .unset, .unset] [(.ref b858)]))
                refine ao6 X865 hx (hb hby at_171) rfl (l' := #[.val (.int p0), .val (.int p1), .val (.int p2), .val (.int p3), .val (.int p4), .val (.int cr), .val (.int ca), .val (.int v2), .val (.int (((p4.toUInt32 >>> ((2 : Int32) &&& 31).toUInt32).toInt32) &&& (3 : Int32))), .val (.int v6), .val (.ref b3_8), .val (.ref b3_8), .val (.ref b3_8), .val (.ref b3_852), .val (.ref b858), .unset, .unset, .unset]) rfl ?_
                refine aw1 X865 hx (hb hby at_173) rfl rfl ?_
                refine aw1 X865 hx (hb hby at_175) rfl rfl ?_
                refine az1 X865 hx hZ (y := (⟨z_s1, "enter", z_s7⟩ : MethodName)) (z := (⟨z_s1, "enter", z_s7⟩ : MethodName)) hown (z_w hw 40 rfl) (z_w hw 41 rfl) (notFace_of_selects (args := #[]) (mvT hZ (z_w hw 43 rfl))) (z_w hw 43 rfl) (z_w hw 42 rfl) (z_w hw 28 rfl) (z_w hw 44 rfl) f0_865 (cg2 l Z a0 hw [] b858 b3_852 b2_865 T865.heap n0 (Nat.le_trans Z0 K865.1) f0_865 f1_865 f2_865 f3_865 f4_865 bc7 cu8 ne874) 0 rfl hml' (argsL := [(.ref b3_852)]) (rest := []) (lenOf ai1 rfl) (hb hby at_177) (fun r875 T875 L875 X875 hQ875 => ?_)
                obtain ⟨b6_875, b2_9_875, b2_4_9_875, b7_4_9_875, b15_4_9_875, rfl, Nq875, Kq875, by4, eo6, be2, dk1, bq0, ck9, br0, cr0, bd0, cv8, bd7, bz4, cn3, an6, an7, cv2, bq4, cy2, cb2, cc2, f0_875, f1_875, f2_875, f3_875, f4_875, f5_875, f6_875, f7_875, f8_875, f9_875, f10_875, f11_875, f12_875, f13_875, f14_875, f15_875, f16_875, f17_875, f18_875⟩ := hQ875
                have N875 := Fr.app N865 Nq875
                have G876 := (G866.keep Kq865 (ninS ne859 nin0))
                have ne877 := z_nc G876.lt by4
                have ne878 := z_nc G876.lt be2
                have ne879 := z_nc G876.lt bq0
                have ne880 := z_nc G876.lt br0
                have ne881 := z_nc G876.lt bd0
                have G882 := (G868.keep Kq865 (ninS ne861 nin0))
                have ne883 := z_nc G882.lt by4
                have ne884 := z_nc G882.lt be2
                have ne885 := z_nc G882.lt bq0
                have ne886 := z_nc G882.lt br0
                have ne887 := z_nc G882.lt bd0
                have ne888 := z_nc f4_865.lt by4
                have ne889 := z_nc f4_865.lt be2
                have ne890 := z_nc f4_865.lt bq0
                have ne891 := z_nc f4_865.lt br0
                have ne892 := z_nc f4_865.lt bd0
                have G893 := (G870.keep Kq865)
                have ne894 := z_nc G893.lt by4
                have ne895 := z_nc G893.lt be2
                have ne896 := z_nc G893.lt bq0
                have ne897 := z_nc G893.lt br0
                have ne898 := z_nc G893.lt bd0
                have G899 := (G872.keep Kq865)
                have ne900 := z_nc G899.lt by4
                have ne901 := z_nc G899.lt be2
                have ne902 := z_nc G899.lt bq0
                have ne903 := z_nc G899.lt br0
                have ne904 := z_nc G899.lt bd0
                have ne905 := z_nc f0_865.lt by4
                have ne906 := z_nc f0_865.lt be2
                have ne907 := z_nc f0_865.lt bq0
                have ne908 := z_nc f0_865.lt br0
                have ne909 := z_nc f0_865.lt bd0
                have eh7 := Nat.le_trans K865.1 by4
                have dr4 := Nat.le_trans K865.1 be2
                have do0 := Nat.le_trans K865.1 bq0
                have cu1 := Nat.le_trans K865.1 br0
                have cl9 := Nat.le_trans K865.1 bd0
                have K875 := Keep.trans K865 Kq875 (allS (Or.inr bl8) (allS (Or.inr dd0) all0))
                show aa0 p e below P (T875.setTop (mkF m 180 #[.val (.int p0), .val (.int p1), .val (.int p2), .val (.int p3), .val (.int p4), .val (.int cr), .val (.int ca), .val (.int v2), .val (.int (((p4.toUInt32 >>> ((2 : Int32) &&& 31).toUInt32).toInt32) &&& (3 : Int32))), .val (.int v6), .val (.ref b3_8), .val (.ref b3_8), .val (.ref b3_8), .val (.ref b3_852), .val (.ref b858), .unset, .unset, .unset] []))
                refine aw1 X875 hx (hb hby at_180) rfl rfl ?_
                refine aw1 X875 hx (hb hby at_182) rfl rfl ?_
                have G911 := (G893.keep Kq875)
                have G912 := ((((f1_8.keep Kq852 nin0).ext E858).keep Kq865 (ninS ne862 nin0)).keep Kq875 (ninS ne862 (ninS ne871 nin0)))
                have G913 := ((((f2_8.keep Kq852 nin0).ext E858).keep Kq865 (ninS ne862 nin0)).keep Kq875 (ninS ne862 (ninS ne871 nin0)))
                have G914 := ((((f3_8.keep Kq852 nin0).ext E858).keep Kq865 (ninS ne862 nin0)).keep Kq875 (ninS ne862 (ninS ne871 nin0)))
                have G915 := ((((f4_8.keep Kq852 nin0).ext E858).keep Kq865 (ninS ne862 nin0)).keep Kq875 (ninS ne862 (ninS ne871 nin0)))
                have G916 := (ad2 (ad2 ((ad2 G853 Kq852 all0).ext E858) Kq865 (allS (aw3 A858) all0)) Kq875 (allS (aw3 f0_865) (allS (ak9 f4_865) all0)))
                have G917 := (G876.keep Kq875 (ninS ne859 (ninS ne867 nin0)))
                refine az1 X875 hx hZ (y := (⟨z_s1, "enter", z_s7⟩ : MethodName)) (z := (⟨z_s1, "enter", z_s7⟩ : MethodName)) hown (z_w hw 40 rfl) (z_w hw 41 rfl) (notFace_of_selects (args := #[]) (mvT hZ (z_w hw 43 rfl))) (z_w hw 43 rfl) (z_w hw 42 rfl) (z_w hw 28 rfl) (z_w hw 44 rfl) f0_875 (ch2 l Z a0 hw [] b858 b3_8 b6_875 ((List.replicate 16 Value.null).set 0 (.ref b6_875)) (nar .byte (ca.toInt8.toInt32)) (List.replicate 16 Value.null) (List.replicate 16 (0 : Int32)) (List.replicate 16 (0 : Int32)) (0 : Int32) b2_865 b2_9_875 b2_4_9_875 b7_4_9_875 b15_4_9_875 (0 : Int32) (0 : Int32) b1_4_8 ab0 T875.heap n0 (Nat.le_trans Z0 K875.1) f0_875 f5_875 f9_875 G911 f1_875 f2_875 f3_875 f6_875 f10_875 f11_875 f12_875 f13_875 f14_875 f15_875 G912 G913 G914 G915 G916 f4_875 f16_875 f17_875 f18_875 G917 bc7 cu8 dk1 ck9 cr0 cv8 cm0 ne874 ne906 ne907 ne908 ne909 ne862.symm ne889 ne890 ne891 ne892 ne871.symm cn3 an7 cy2 ne895.symm cv2 cb2 ne896.symm cc2 ne897.symm ne898.symm ne905 ne859.symm ne888 ne867.symm bd7.symm ne878.symm bz4.symm ne879.symm an6.symm ne880.symm bq4.symm ne881.symm ne894 am7 hnz (by simp only [ap3, ae3, aq3, List.length_set, List.length_replicate]) (by simp only [ap3, ae3, aq3, List.length_set, List.length_replicate]) (by simp only [ap3, ae3, aq3, List.length_set, List.length_replicate]) (Or.inl rfl) (ch0 _) rfl rfl (by rfl)) 0 rfl hml' (argsL := [(.ref b3_8)]) (rest := []) (lenOf ai1 rfl) (hb hby at_184) (fun r910 T910 L910 X910 hQ910 => ?_)
                obtain ⟨b13_910, b2_26_910, rfl, Nq910, Kq910, ag8, cz6, ar6, cu4, bz9, f0_910, f1_910, f2_910, f3_910, f4_910, f5_910, f6_910, f7_910, f8_910, f9_910, f10_910, f11_910, f12_910, f13_910, f14_910, f15_910, f16_910, f17_910, f18_910, f19_910, f20_910, f21_910, f22_910, f23_910, f24_910, f25_910, f26_910⟩ := hQ910
                have N910 := Fr.app N875 Nq910
                have ne918 := z_nc f18_875.lt ag8
                have ne919 := z_nc f18_875.lt ar6
                have ne920 := z_nc G917.lt ag8
                have ne921 := z_nc G917.lt ar6
                have G922 := (G882.keep Kq875 (ninS ne861 (ninS ne869 nin0)))
                have ne923 := z_nc G922.lt ag8
                have ne924 := z_nc G922.lt ar6
                have ne925 := z_nc f16_875.lt ag8
                have ne926 := z_nc f16_875.lt ar6
                have ne927 := z_nc f4_875.lt ag8
                have ne928 := z_nc f4_875.lt ar6
                have ne929 := z_nc f9_875.lt ag8
                have ne930 := z_nc f9_875.lt ar6
                have ne931 := z_nc G911.lt ag8
                have ne932 := z_nc G911.lt ar6
                have G933 := (G899.keep Kq875)
                have ne934 := z_nc G933.lt ag8
                have ne935 := z_nc G933.lt ar6
                have ne936 := z_nc f5_875.lt ag8
                have ne937 := z_nc f5_875.lt ar6
                have ne938 := z_nc f17_875.lt ag8
                have ne939 := z_nc f17_875.lt ar6
                have ne940 := z_nc f0_875.lt ag8
                have ne941 := z_nc f0_875.lt ar6
                have cw8 := Nat.le_trans K875.1 ag8
                have ci5 := Nat.le_trans K875.1 ar6
                have K910 := Keep.trans K875 Kq910 (allS (Or.inr bl8) (allS (Or.inr dd0) (allS (Or.inr dr4) (allS (Or.inr do0) (allS (Or.inr cu1) (allS (Or.inr cl9) (allS (Or.inr cj2) all0)))))))
                show aa0 p e below P (T910.setTop (mkF m 187 #[.val (.int p0), .val (.int p1), .val (.int p2), .val (.int p3), .val (.int p4), .val (.int cr), .val (.int ca), .val (.int v2), .val (.int (((p4.toUInt32 >>> ((2 : Int32) &&& 31).toUInt32).toInt32) &&& (3 : Int32))), .val (.int v6), .val (.ref b3_8), .val (.ref b3_8), .val (.ref b3_8), .val (.ref b3_852), .val (.ref b858), .unset, .unset, .unset] []))
                refine aw1 X910 hx (hb hby at_187) rfl rfl ?_
                refine az1 X910 hx hZ (y := (⟨z_s1, "leave", "()V"⟩ : MethodName)) (z := (⟨z_s1, "leave", "()V"⟩ : MethodName)) hown (z_w hw 119 rfl) (z_w hw 120 rfl) (notFace_of_selects (args := #[]) (mvT hZ (z_w hw 122 rfl))) (z_w hw 122 rfl) (z_w hw 121 rfl) (z_w hw 28 rfl) (z_w hw 123 rfl) f0_910 (az8 l Z a0 hw [] b858 b2_865 T910.heap n0 (Nat.le_trans Z0 K910.1) f0_910 f3_910 f4_910 f5_910 bc7) 0 rfl hml' (argsL := []) (rest := []) (lenOf as2 rfl) (hb hby at_189) (fun r942 T942 L942 X942 hQ942 => ?_)
                obtain ⟨rfl, Nq942, Kq942, f0_942, f1_942, f2_942, f3_942⟩ := hQ942
                have N942 := Fr.app N910 Nq942
                have K942 := Keep.trans K910 Kq942 (allS (Or.inr bl8) all0)
                show aa0 p e below P (T942.setTop (mkF m 192 #[.val (.int p0), .val (.int p1), .val (.int p2), .val (.int p3), .val (.int p4), .val (.int cr), .val (.int ca), .val (.int v2), .val (.int (((p4.toUInt32 >>> ((2 : Int32) &&& 31).toUInt32).toInt32) &&& (3 : Int32))), .val (.int v6), .val (.ref b3_8), .val (.ref b3_8), .val (.ref b3_8), .val (.ref b3_852), .val (.ref b858), .unset, .unset, .unset] []))
                refine aw1 X942 hx (hb hby at_192) rfl rfl ?_
                refine aw1 X942 hx (hb hby at_194) rfl rfl ?_
                have G944 := ((f5_875.keep Kq910).keep Kq942)
                have G945 := (f1_910.keep Kq942)
                have G946 := (f20_910.keep Kq942)
                have G947 := (f24_910.keep Kq942)
                have G948 := ((f6_875.keep Kq910 (ninS ne905.symm (ninS ne888.symm (ninS bd7 (ninS bz4 (ninS an6 (ninS bq4 (ninS ne894.symm nin0)))))))).keep Kq942 (ninS ne905.symm nin0))
                have G949 := (f21_910.keep Kq942 (ninS ne940.symm nin0))
                have G950 := (f22_910.keep Kq942 (ninS ne940.symm nin0))
                have G951 := (f23_910.keep Kq942 (ninS ne940.symm nin0))
                have G952 := (f25_910.keep Kq942 (ninS ne941.symm nin0))
                have G953 := (f26_910.keep Kq942 (ninS ne941.symm nin0))
                have G954 := (f7_910.keep Kq942 (ninS ne906.symm nin0))
                have G955 := (f10_910.keep Kq942 (ninS ne906.symm nin0))
                have G956 := (f11_910.keep Kq942 (ninS ne906.symm nin0))
                have G957 := (f16_910.keep Kq942 (ninS ne874.symm nin0))
                have G958 := (f18_910.keep Kq942 (ninS ne908.symm nin0))
                refine az1 X942 hx hZ (y := (⟨z_s1, "enter", z_s7⟩ : MethodName)) (z := (⟨z_s1, "enter", z_s7⟩ : MethodName)) hown (z_w hw 40 rfl) (z_w hw 41 rfl) (notFace_of_selects (args := #[]) (mvT hZ (z_w hw 43 rfl))) (z_w hw 43 rfl) (z_w hw 42 rfl) (z_w hw 28 rfl) (z_w hw 44 rfl) f0_942 (ci2 l Z a0 hw [] b858 b3_8 b6_875 b13_910 (((List.replicate 16 Value.null).set 0 (.ref b6_875)).set 1 (.ref b13_910)) (ai3 false (List.replicate 16 (0 : Int32)) (ah0 (ac0 (nar .byte (ca.toInt8.toInt32)))) (0 : Int32)) (1 : Int32) b2_865 b2_9_875 b2_26_910 b3_8 (ax0 false (0 : Int32)) b7_4_9_875 (ac0 (nar .byte (ca.toInt8.toInt32))) T942.heap n0 (Nat.le_trans Z0 K942.1) f0_942 G944 G945 G946 G947 f1_942 f2_942 f3_942 G948 G949 G950 G951 G952 G953 G954 G955 G956 G957 G958 bc7 cz6 cu4 cr0 ne940 ne941 ne908 bz9 ne938.symm ne939.symm ne905 ne906 ne874 ne936.symm ne929.symm ne927.symm ne937.symm ne930.symm ne928.symm an6.symm an7.symm ne891.symm (ay4 _) (bs4 _) rfl rfl (by rfl)) 0 rfl hml' (argsL := [(.ref b3_8)]) (rest := []) (lenOf ai1 rfl) (hb hby at_196) (fun r943 T943 L943 X943 hQ943 => ?_)
                obtain ⟨rfl, Nq943, Kq943, f0_943, f1_943, f2_943, f3_943, f4_943, f5_943, f6_943, f7_943, f8_943, f9_943, f10_943, f11_943⟩ := hQ943
                have N943 := Fr.app N942 Nq943
                have K943 := Keep.trans K942 Kq943 (allS (Or.inr bl8) (allS (Or.inr cw8) (allS (Or.inr ci5) (allS (Or.inr cu1) all0))))
                show aa0 p e below P (T943.setTop (mkF m 199 #[.val (.int p0), .val (.int p1), .val (.int p2), .val (.int p3), .val (.int p4), .val (.int cr), .val (.int ca), .val (.int v2), .val (.int (((p4.toUInt32 >>> ((2 : Int32) &&& 31).toUInt32).toInt32) &&& (3 : Int32))), .val (.int v6), .val (.ref b3_8), .val (.ref b3_8), .val (.ref b3_8), .val (.ref b3_852), .val (.ref b858), .unset, .unset, .unset] []))
                refine aw1 X943 hx (hb hby at_199) rfl rfl ?_
                refine az1 X943 hx hZ (y := (⟨z_s1, "leave", "()V"⟩ : MethodName)) (z := (⟨z_s1, "leave", "()V"⟩ : MethodName)) hown (z_w hw 119 rfl) (z_w hw 120 rfl) (notFace_of_selects (args := #[]) (mvT hZ (z_w hw 122 rfl))) (z_w hw 122 rfl) (z_w hw 121 rfl) (z_w hw 28 rfl) (z_w hw 123 rfl) f0_943 (az8 l Z a0 hw [] b858 b2_865 T943.heap n0 (Nat.le_trans Z0 K943.1) f0_943 f3_943 f4_943 f5_943 bc7) 0 rfl hml' (argsL := []) (rest := []) (lenOf as2 rfl) (hb hby at_201) (fun r959 T959 L959 X959 hQ959 => ?_)
                obtain ⟨rfl, Nq959, Kq959, f0_959, f1_959, f2_959, f3_959⟩ := hQ959
                have N959 := Fr.app N943 Nq959
                have K959 := Keep.trans K943 Kq959 (allS (Or.inr bl8) all0)
                show aa0 p e below P (T959.setTop (mkF m 204 #[.val (.int p0), .val (.int p1), .val (.int p2), .val (.int p3), .val (.int p4), .val (.int cr), .val (.int ca), .val (.int v2), .val (.int (((p4.toUInt32 >>> ((2 : Int32) &&& 31).toUInt32).toInt32) &&& (3 : Int32))), .val (.int v6), .val (.ref b3_8), .val (.ref b3_8), .val (.ref b3_8), .val (.ref b3_852), .val (.ref b858), .unset, .unset, .unset] []))
                refine aw1 X959 hx (hb hby at_204) rfl rfl ?_
                refine aw1 X959 hx (hb hby at_206) rfl rfl ?_
                have G962 := ((G944.keep Kq943).keep Kq959)
                have G963 := ((G945.keep Kq943).keep Kq959)
                have G964 := (f1_943.keep Kq959)
                have G965 := (f2_943.keep Kq959)
                have G966 := ((G948.keep Kq943 (ninS ne905.symm (ninS ne936 (ninS ne937 (ninS an6 nin0))))).keep Kq959 (ninS ne905.symm nin0))
                have G967 := (f6_943.keep Kq959 (ninS ne940.symm nin0))
                have G968 := (f7_943.keep Kq959 (ninS ne940.symm nin0))
                have G969 := (f8_943.keep Kq959 (ninS ne940.symm nin0))
                have G970 := (f9_943.keep Kq959 (ninS ne941.symm nin0))
                have G971 := (f10_943.keep Kq959 (ninS ne941.symm nin0))
                have G972 := ((G954.keep Kq943 (ninS ne906.symm (ninS ne929 (ninS ne930 (ninS an7 nin0))))).keep Kq959 (ninS ne906.symm nin0))
                have G973 := ((G955.keep Kq943 (ninS ne906.symm (ninS ne929 (ninS ne930 (ninS an7 nin0))))).keep Kq959 (ninS ne906.symm nin0))
                have G974 := ((G956.keep Kq943 (ninS ne906.symm (ninS ne929 (ninS ne930 (ninS an7 nin0))))).keep Kq959 (ninS ne906.symm nin0))
                have G975 := ((G957.keep Kq943 (ninS ne874.symm (ninS ne927 (ninS ne928 (ninS ne891 nin0))))).keep Kq959 (ninS ne874.symm nin0))
                have G976 := (f11_943.keep Kq959 (ninS ne908.symm nin0))
                refine az1 X959 hx hZ (y := (⟨z_s1, "enter", z_s7⟩ : MethodName)) (z := (⟨z_s1, "enter", z_s7⟩ : MethodName)) hown (z_w hw 40 rfl) (z_w hw 41 rfl) (notFace_of_selects (args := #[]) (mvT hZ (z_w hw 43 rfl))) (z_w hw 43 rfl) (z_w hw 42 rfl) (z_w hw 28 rfl) (z_w hw 44 rfl) f0_959 (ci2 l Z a0 hw [] b858 b3_8 b6_875 b13_910 (((List.replicate 16 Value.null).set 0 (.ref b6_875)).set 1 (.ref b13_910)) ((ai3 false (List.replicate 16 (0 : Int32)) (ah0 (ac0 (nar .byte (ca.toInt8.toInt32)))) (0 : Int32)).set (ah0 (ac0 (nar .byte (ca.toInt8.toInt32)))) ((1 : Int32) + (1 : Int32))) (2 : Int32) b2_865 b2_9_875 b2_26_910 b3_8 (2 : Int32) b7_4_9_875 (ac0 (nar .byte (ca.toInt8.toInt32))) T959.heap n0 (Nat.le_trans Z0 K959.1) f0_959 G962 G963 G964 G965 f1_959 f2_959 f3_959 G966 G967 G968 G969 G970 G971 G972 G973 G974 G975 G976 bc7 cz6 cu4 cr0 ne940 ne941 ne908 bz9 ne938.symm ne939.symm ne905 ne906 ne874 ne936.symm ne929.symm ne927.symm ne937.symm ne930.symm ne928.symm an6.symm an7.symm ne891.symm (ay4 _) (cp2 (by simp only [ae3, List.length_replicate]; exact a5 _)) rfl rfl (by rfl)) 0 rfl hml' (argsL := [(.ref b3_8)]) (rest := []) (lenOf ai1 rfl) (hb hby at_208) (fun r961 T961 L961 X961 hQ961 => ?_)
                obtain ⟨rfl, Nq961, Kq961, f0_961, f1_961, f2_961, f3_961, f4_961, f5_961, f6_961, f7_961, f8_961, f9_961, f10_961, f11_961⟩ := hQ961
                have N961 := Fr.app N959 Nq961
                have K961 := Keep.trans K959 Kq961 (allS (Or.inr bl8) (allS (Or.inr cw8) (allS (Or.inr ci5) (allS (Or.inr cu1) all0))))
                show aa0 p e below P (T961.setTop (mkF m 211 #[.val (.int p0), .val (.int p1), .val (.int p2), .val (.int p3), .val (.int p4), .val (.int cr), .val (.int ca), .val (.int v2), .val (.int (((p4.toUInt32 >>> ((2 : Int32) &&& 31).toUInt32).toInt32) &&& (3 : Int32))), .val (.int v6), .val (.ref b3_8), .val (.ref b3_8), .val (.ref b3_8), .val (.ref b3_852), .val (.ref b858), .unset, .unset, .unset] []))
                refine aw1 X961 hx (hb hby at_211) rfl rfl ?_
                have G978 := (G975.keep Kq961 (ninS ne874.symm (ninS ne927 (ninS ne928 (ninS ne891 nin0)))))
                refine az1 X961 hx hZ (y := (⟨z_s1, "index", "()I"⟩ : MethodName)) (z := (⟨z_s1, "index", "()I"⟩ : MethodName)) hown (z_w hw 132 rfl) (z_w hw 133 rfl) (notFace_of_selects (args := #[]) (mvT hZ (z_w hw 135 rfl))) (z_w hw 135 rfl) (z_w hw 134 rfl) (z_w hw 28 rfl) (z_w hw 136 rfl) f0_961 (ck0 l Z a0 hw [] b858 b13_910 (((List.replicate 16 Value.null).set 0 (.ref b6_875)).set 1 (.ref b13_910)) b2_865 (3 : Int32) T961.heap n0 (Nat.le_trans Z0 K961.1) f3_961 f4_961 f8_961 G978 rfl) 0 rfl hml' (argsL := []) (rest := []) (lenOf au4 rfl) (hb hby at_213) (fun r977 T977 L977 X977 hQ977 => ?_)
                obtain ⟨rfl, Nq977, eq977⟩ := hQ977
                have N977 := Fr.app N961 Nq977
                show aa0 p e below P (T977.setTop (mkF m 216 #[.val (.int p0), .val (.int p1), .val (.int p2), .val (.int p3), .val (.int p4), .val (.int cr), .val (.int ca), .val (.int v2), .val (.int (((p4.toUInt32 >>> ((2 : Int32) &&& 31).toUInt32).toInt32) &&& (3 : Int32))), .val (.int v6), .val (.ref b3_8), .val (.ref b3_8), .val (.ref b3_8), .val (.ref b3_852), .val (.ref b858), .unset, .unset, .unset] [(.int (3 : Int32))]))
                refine as4 X977 hx (hb hby at_216) (l' := #[.val (.int p0), .val (.int p1), .val (.int p2), .val (.int p3), .val (.int p4), .val (.int cr), .val (.int ca), .val (.int v2), .val (.int (((p4.toUInt32 >>> ((2 : Int32) &&& 31).toUInt32).toInt32) &&& (3 : Int32))), .val (.int v6), .val (.ref b3_8), .val (.ref b3_8), .val (.ref b3_8), .val (.ref b3_852), .val (.ref b858), .val (.int (3 : Int32)), .unset, .unset]) rfl ?_
                refine aw1 X977 hx (hb hby at_218) rfl rfl ?_
                refine az1 X977 hx hZ (y := (⟨z_s1, "leave", "()V"⟩ : MethodName)) (z := (⟨z_s1, "leave", "()V"⟩ : MethodName)) hown (z_w hw 119 rfl) (z_w hw 120 rfl) (notFace_of_selects (args := #[]) (mvT hZ (z_w hw 122 rfl))) (z_w hw 122 rfl) (z_w hw 121 rfl) (z_w hw 28 rfl) (z_w hw 123 rfl) f0_961 (az8 l Z a0 hw [] b858 b2_865 T961.heap n0 (Nat.le_trans Z0 K961.1) f0_961 f3_961 f4_961 f5_961 bc7) 0 eq977 hml' (argsL := []) (rest := []) (lenOf as2 rfl) (hb hby at_220) (fun r979 T979 L979 X979 hQ979 => ?_)
                obtain ⟨rfl, Nq979, Kq979, f0_979, f1_979, f2_979, f3_979⟩ := hQ979
                have N979 := Fr.app N977 Nq979
                have K979 := Keep.trans K961 Kq979 (allS (Or.inr bl8) all0)
                show aa0 p e below P (T979.setTop (mkF m 223 #[.val (.int p0), .val (.int p1), .val (.int p2), .val (.int p3), .val (.int p4), .val (.int cr), .val (.int ca), .val (.int v2), .val (.int (((p4.toUInt32 >>> ((2 : Int32) &&& 31).toUInt32).toInt32) &&& (3 : Int32))), .val (.int v6), .val (.ref b3_8), .val (.ref b3_8), .val (.ref b3_8), .val (.ref b3_852), .val (.ref b858), .val (.int (3 : Int32)), .unset, .unset] []))
                refine aw1 X979 hx (hb hby at_223) rfl rfl ?_
                have G981 := ((((((f8_875.keep Kq910 (ninS ne905.symm (ninS ne888.symm (ninS bd7 (ninS bz4 (ninS an6 (ninS bq4 (ninS ne894.symm nin0)))))))).keep Kq942 (ninS ne905.symm nin0)).keep Kq943 (ninS ne905.symm (ninS ne936 (ninS ne937 (ninS an6 nin0))))).keep Kq959 (ninS ne905.symm nin0)).keep Kq961 (ninS ne905.symm (ninS ne936 (ninS ne937 (ninS an6 nin0))))).keep Kq979 (ninS ne905.symm nin0))
                have G982 := (G978.keep Kq979 (ninS ne874.symm nin0))
                refine az1 X979 hx hZ (y := (⟨z_s1, "index", "()I"⟩ : MethodName)) (z := (⟨z_s1, "index", "()I"⟩ : MethodName)) hown (z_w hw 132 rfl) (z_w hw 133 rfl) (notFace_of_selects (args := #[]) (mvT hZ (z_w hw 135 rfl))) (z_w hw 135 rfl) (z_w hw 134 rfl) (z_w hw 28 rfl) (z_w hw 136 rfl) f0_979 (cl0 l Z a0 hw [] b858 b6_875 (((List.replicate 16 Value.null).set 0 (.ref b6_875)).set 1 (.ref b13_910)) b2_865 (1 : Int32) T979.heap n0 (Nat.le_trans Z0 K979.1) f1_979 f2_979 G981 G982 rfl) 0 rfl hml' (argsL := []) (rest := []) (lenOf au4 rfl) (hb hby at_225) (fun r980 T980 L980 X980 hQ980 => ?_)
                obtain ⟨rfl, Nq980, eq980⟩ := hQ980
                have N980 := Fr.app N979 Nq980
                show aa0 p e below P (T980.setTop (mkF m 228 #[.val (.int p0), .val (.int p1), .val (.int p2), .val (.int p3), .val (.int p4), .val (.int cr), .val (.int ca), .val (.int v2), .val (.int (((p4.toUInt32 >>> ((2 : Int32) &&& 31).toUInt32).toInt32) &&& (3 : Int32))), .val (.int v6), .val (.ref b3_8), .val (.ref b3_8), .val (.ref b3_8), .val (.ref b3_852), .val (.ref b858), .val (.int (3 : Int32)), .unset, .unset] [(.int (1 : Int32))]))
                refine as4 X980 hx (hb hby at_228) (l' := #[.val (.int p0), .val (.int p1), .val (.int p2), .val (.int p3), .val (.int p4), .val (.int cr), .val (.int ca), .val (.int v2), .val (.int (((p4.toUInt32 >>> ((2 : Int32) &&& 31).toUInt32).toInt32) &&& (3 : Int32))), .val (.int v6), .val (.ref b3_8), .val (.ref b3_8), .val (.ref b3_8), .val (.ref b3_852), .val (.ref b858), .val (.int (3 : Int32)), .val (.int (1 : Int32)), .unset]) rfl ?_
                refine az0 X980 hx (hb hby at_230) (z := (1 : Int32)) rfl ?_
                refine ay1 X980 hx (hb hby at_231) rfl ?_
                refine ay1 X980 hx (hb hby at_233) rfl ?_
                have J985 : ∀ v984 : Int32, v984 = (if ca = v6 then (1 : Int32) else (0 : Int32)) → aa0 p e below P (T980.setTop (mkF m 243 #[.val (.int p0), .val (.int p1), .val (.int p2), .val (.int p3), .val (.int p4), .val (.int cr), .val (.int ca), .val (.int v2), .val (.int (((p4.toUInt32 >>> ((2 : Int32) &&& 31).toUInt32).toInt32) &&& (3 : Int32))), .val (.int v6), .val (.ref b3_8), .val (.ref b3_8), .val (.ref b3_8), .val (.ref b3_852), .val (.ref b858), .val (.int (3 : Int32)), .val (.int (1 : Int32)), .unset] [(.int v984), (.int (1 : Int32))])) := by
                  intro v984 e_v984
                  refine ad6 X980 hx (hb hby at_243) (z := ((1 : Int32) + v984)) rfl ?_
                  refine ay1 X980 hx (hb hby at_244) rfl ?_
                  refine ay1 X980 hx (hb hby at_246) rfl ?_
                  have J988 : ∀ v987 : Int32, v987 = (if v2 = v6 then (1 : Int32) else (0 : Int32)) → aa0 p e below P (T980.setTop (mkF m 256 #[.val (.int p0), .val (.int p1), .val (.int p2), .val (.int p3), .val (.int p4), .val (.int cr), .val (.int ca), .val (.int v2), .val (.int (((p4.toUInt32 >>> ((2 : Int32) &&& 31).toUInt32).toInt32) &&& (3 : Int32))), .val (.int v6), .val (.ref b3_8), .val (.ref b3_8), .val (.ref b3_8), .val (.ref b3_852), .val (.ref b858), .val (.int (3 : Int32)), .val (.int (1 : Int32)), .unset] [(.int v987), (.int ((1 : Int32) + v984))])) := by
                    intro v987 e_v987
                    refine ad6 X980 hx (hb hby at_256) (z := (((1 : Int32) + v984) + v987)) rfl ?_
                    refine as4 X980 hx (hb hby at_257) (l' := #[.val (.int p0), .val (.int p1), .val (.int p2), .val (.int p3), .val (.int p4), .val (.int cr), .val (.int ca), .val (.int v2), .val (.int (((p4.toUInt32 >>> ((2 : Int32) &&& 31).toUInt32).toInt32) &&& (3 : Int32))), .val (.int v6), .val (.ref b3_8), .val (.ref b3_8), .val (.ref b3_8), .val (.ref b3_852), .val (.ref b858), .val (.int (3 : Int32)), .val (.int (1 : Int32)), .val (.int (((1 : Int32) + v984) + v987))]) rfl ?_
                    refine ay1 X980 hx (hb hby at_259) rfl ?_
                    refine ay1 X980 hx (hb hby at_261) rfl ?_
                    have hd989 : (3 : Int32) = (((1 : Int32) + v984) + v987) := by rw [e_v984, e_v987]; exact ea1 hc655 hc851
                    refine a4 X980 hx (hb hby at_263) (teq hd989).2 ?_
                    refine ay1 X980 hx (hb hby at_266) rfl ?_
                    refine az0 X980 hx (hb hby at_268) (z := (1 : Int32)) rfl ?_
                    refine a4 X980 hx (hb hby at_269) (teq (by decide : (1 : Int32) = (1 : Int32))).2 ?_
                    refine az0 X980 hx (hb hby at_272) (z := (1 : Int32)) rfl ?_
                    refine ao4 X980 hx (pc' := 277) (hb hby at_273) ?_
                    exact bd1 X980 hx hlk hP (t := .boolean) (by simp) hrt (hb hby at_277) (by decide) (by decide) ⟨rfl, N980⟩
                  by_cases hc986 : v2 = v6
                  · refine a4 X980 hx (hb hby at_248) (teq hc986).2 ?_
                    refine az0 X980 hx (hb hby at_251) (z := (1 : Int32)) rfl ?_
                    refine ao4 X980 hx (pc' := 256) (hb hby at_252) ?_
                    exact J988 _ ((if_pos hc986).trans (rfl)).symm
                  · refine au3 X980 hx (pc' := 255) (hb hby at_248) (feq hc986).2 ?_
                    refine az0 X980 hx (hb hby at_255) (z := (0 : Int32)) rfl ?_
                    exact J988 _ ((if_neg hc986).trans (rfl)).symm
                by_cases hc983 : ca = v6
                · refine a4 X980 hx (hb hby at_235) (teq hc983).2 ?_
                  refine az0 X980 hx (hb hby at_238) (z := (1 : Int32)) rfl ?_
                  refine ao4 X980 hx (pc' := 243) (hb hby at_239) ?_
                  exact J985 _ ((if_pos hc983).trans (rfl)).symm
                · refine au3 X980 hx (pc' := 242) (hb hby at_235) (feq hc983).2 ?_
                  refine az0 X980 hx (hb hby at_242) (z := (0 : Int32)) rfl ?_
                  exact J985 _ ((if_neg hc983).trans (rfl)).symm
              · refine au3 X8 hx (pc' := 150) (hb hby at_140) (feq hc851).2 ?_
                exact Jn656
          refine ay1 X8 hx (hb hby at_106) rfl ?_
          refine bu4 X8 hx (hb hby at_108) (z := (16 : Int32)) rfl ?_
          refine az7 X8 hx (hb hby at_110) (z := (p4 &&& (16 : Int32))) rfl ?_
          by_cases hc990 : (p4 &&& (16 : Int32)) = (0 : Int32)
          · refine al7 X8 hx (pc' := 128) (hb hby at_111) ((if0 _ _).trans (teq hc990).1) ?_
            exact Jn849
          · refine aq7 X8 hx (hb hby at_111) ((if0 _ _).trans (feq hc990).1) ?_
            refine ay1 X8 hx (hb hby at_114) rfl ?_
            refine ay1 X8 hx (hb hby at_116) rfl ?_
            by_cases hc991 : v6 = v2
            · refine a4 X8 hx (hb hby at_118) (teq hc991).2 ?_
              refine aw1 X8 hx (hb hby at_121) rfl rfl ?_
              refine ao6 X8 hx (hb hby at_123) rfl (l' := #[.val (.int p0), .val (.int p1), .val (.int p2), .val (.int p3), .val (.int p4), .val (.int cr), .val (.int ca), .val (.int v2), .val (.int (((p4.toUInt32 >>> ((2 : Int32) &&& 31).toUInt32).toInt32) &&& (3 : Int32))), .val (.int v6), .val (.ref b3_8), .val (.ref b3_8), .val (.ref b3_8), .unset, .unset, .unset, .unset, .unset]) rfl ?_
              refine ao4 X8 hx (pc' := 157) (hb hby at_125) ?_
              refine ay1 X8 hx (hb hby at_157) rfl ?_
              have G993 := (ad2 ar0 Kq8 all0)
              refine as5 X8 hx hZ (y := (⟨z_s2, "valueOf", "(C)Ljava/lang/String;"⟩ : MethodName)) hown (z_w hw 0 rfl) (z_w hw 1 rfl) (z_w hw 2 rfl) (z_w hw 3 rfl) (bd5 l Z a0 hw [] cr ab0 T8.heap n0 (Nat.le_trans Z0 K8.1) G993 hnz (bp3 Hr)) 0 rfl hml' (argsL := [(.int cr)]) (rest := []) (lenOf aj3 rfl) (hb hby at_159) (fun r992 T992 L992 X992 hQ992 => ?_)
              obtain ⟨b3_992, b1_4_992, rfl, Nq992, Kq992, cl4, ep6, cw2, ei5, es1, f0_992, f1_992, f2_992, f3_992, f4_992, f5_992⟩ := hQ992
              have N992 := Fr.app N8 Nq992
              have ne994 := z_nc f5_8.lt cl4
              have ne995 := z_nc f5_8.lt cw2
              have ne996 := z_nc f0_8.lt cl4
              have ne997 := z_nc f0_8.lt cw2
              have ei7 := Nat.le_trans K8.1 cl4
              have ex5 := Nat.le_trans K8.1 cw2
              have K992 := Keep.trans K8 Kq992 all0
              show aa0 p e below P (T992.setTop (mkF m 162 #[.val (.int p0), .val (.int p1), .val (.int p2), .val (.int p3), .val (.int p4), .val (.int cr), .val (.int ca), .val (.int v2), .val (.int (((p4.toUInt32 >>> ((2 : Int32) &&& 31).toUInt32).toInt32) &&& (3 : Int32))), .val (.int v6), .val (.ref b3_8), .val (.ref b3_8), .val (.ref b3_8), .unset, .unset, .unset, .unset, .unset] [(.ref b3_992)]))
              refine ao6 X992 hx (hb hby at_162) rfl (l' := #[.val (.int p0), .val (.int p1), .val (.int p2), .val (.int p3), .val (.int p4), .val (.int cr), .val (.int ca), .val (.int v2), .val (.int (((p4.toUInt32 >>> ((2 : Int32) &&& 31).toUInt32).toInt32) &&& (3 : Int32))), .val (.int v6), .val (.ref b3_8), .val (.ref b3_8), .val (.ref b3_8), .val (.ref b3_992), .unset, .unset, .unset, .unset]) rfl ?_
              obtain ⟨T998, h998, X998, e998, E998, A998, D998, -, st998⟩ := newO X992 hx hZ hown (z_w hw 26 rfl) (z_w hw 27 rfl) (z_w hw 28 rfl) rfl (g := (mkF m 164 #[.val (.int p0), .val (.int p1), .val (.int p2), .val (.int p3), .val (.int p4), .val (.int cr), .val (.int ca), .val (.int v2), .val (.int (((p4.toUInt32 >>> ((2 : Int32) &&& 31).toUInt32).toInt32) &&& (3 : Int32))), .val (.int v6), .val (.ref b3_8), .val (.ref b3_8), .val (.ref b3_8), .val (.ref b3_992), .unset, .unset, .unset, .unset] [])) rfl (hb hby at_164) (by decide) (by decide)
              obtain ⟨b998, g998⟩ : ∃ z, z = T992.heap.size := ⟨_, rfl⟩
              rw [← g998] at A998 D998 st998
              have G1000 := (f5_8.keep Kq992 nin0)
              have ne999 := z_nb G1000.lt g998
              have ne1001 := z_nb f5_992.lt g998
              have G1003 := (f0_8.keep Kq992)
              have ne1002 := z_nb G1003.lt g998
              have ne1004 := z_nb f0_992.lt g998
              have be7 : n0 ≤ b998 := Nat.le_trans (Nat.le_trans Z0 K992.1) (Nat.le_of_eq g998.symm)
              have bm8 : h0.size ≤ b998 := Nat.le_trans K992.1 (Nat.le_of_eq g998.symm)
              have K998 := Keep.ext K992 E998
              have dp0 : Fld Z h998 b998 z_s1 "levels" z_s4 .null := D998 (Or.inl (z_w hw 36 rfl)) (ty := (.array (.object z_s3))) (by decide)
              have ds4 : Fld Z h998 b998 z_s1 "path" "[C" .null := D998 (Or.inl (z_w hw 39 rfl)) (ty := (.array .char)) (by decide)
              have dl1 : Fld Z h998 b998 z_s1 "depth" "I" (.int (0 : Int32)) := D998 (Or.inl (z_w hw 46 rfl)) (ty := .int) (by decide)
              have cm9 : Fld Z h998 b998 z_s1 "written" "I" (.int (0 : Int32)) := D998 (Or.inl (z_w hw 87 rfl)) (ty := .int) (by decide)
              refine an1 (fun _ => st998 _) ?_
              show aa0 p e below P (T998.setTop (mkF m 167 #[.val (.int p0), .val (.int p1), .val (.int p2), .val (.int p3), .val (.int p4), .val (.int cr), .val (.int ca), .val (.int v2), .val (.int (((p4.toUInt32 >>> ((2 : Int32) &&& 31).toUInt32).toInt32) &&& (3 : Int32))), .val (.int v6), .val (.ref b3_8), .val (.ref b3_8), .val (.ref b3_8), .val (.ref b3_992), .unset, .unset, .unset, .unset] [(.ref b998)]))
              refine bi0 X998 hx (hb hby at_167) rfl ?_
              refine cb0 X998 hx hZ (y := (⟨z_s1, "<init>", "()V"⟩ : MethodName)) hown (z_w hw 29 rfl) (z_w hw 30 rfl) (z_w hw 28 rfl) (z_w hw 31 rfl) (ce2 l Z a0 hw [] b998  h998 n0 (Nat.le_trans Z0 K998.1) A998 dp0 ds4 dl1 cm9 be7) 1 e998 hml' (a := b998) (argsL := []) (rest := [(.ref b998)]) (lenOf as2 rfl) (hb hby at_168) (fun r1005 T1005 L1005 X1005 hQ1005 => ?_)
              obtain ⟨b2_1005, rfl, Nq1005, Kq1005, bf6, c7, f0_1005, f1_1005, f2_1005, f3_1005, f4_1005⟩ := hQ1005
              have N1005 := Fr.app N992 Nq1005
              have G1006 := (G1000.ext E998)
              have ne1007 := z_nc G1006.lt bf6
              have G1008 := (f5_992.ext E998)
              have ne1009 := z_nc G1008.lt bf6
              have G1010 := (G1003.ext E998)
              have ne1011 := z_nc G1010.lt bf6
              have G1012 := (f0_992.ext E998)
              have ne1013 := z_nc G1012.lt bf6
              have ne1014 := z_nc A998.lt bf6
              have cx8 := Nat.le_trans K998.1 bf6
              have K1005 := Keep.trans K998 Kq1005 (allS (Or.inr bm8) all0)
              show aa0 p e below P (T1005.setTop (mkF m 171 #[.val (.int p0), .val (.int p1), .val (.int p2), .val (.int p3), .val (.int p4), .val (.int cr), .val (.int ca), .val (.int v2), .val (.int (((p4.toUInt32 >>> ((2 : Int32) &&& 31).toUInt32).toInt32) &&& (3 : Int32))), .val (.int v6), .val (.ref b3_8), .val (.ref b3_8), .val (.ref b3_8), .val (.ref b3_992), .unset, .unset, .unset, .unset] [(.ref b998)]))
              refine ao6 X1005 hx (hb hby at_171) rfl (l' := #[.val (.int p0), .val (.int p1), .val (.int p2), .val (.int p3), .val (.int p4), .val (.int cr), .val (.int ca), .val (.int v2), .val (.int (((p4.toUInt32 >>> ((2 : Int32) &&& 31).toUInt32).toInt32) &&& (3 : Int32))), .val (.int v6), .val (.ref b3_8), .val (.ref b3_8), .val (.ref b3_8), .val (.ref b3_992), .val (.ref b998), .unset, .unset, .unset]) rfl ?_
              refine aw1 X1005 hx (hb hby at_173) rfl rfl ?_
              refine aw1 X1005 hx (hb hby at_175) rfl rfl ?_
              refine az1 X1005 hx hZ (y := (⟨z_s1, "enter", z_s7⟩ : MethodName)) (z := (⟨z_s1, "enter", z_s7⟩ : MethodName)) hown (z_w hw 40 rfl) (z_w hw 41 rfl) (notFace_of_selects (args := #[]) (mvT hZ (z_w hw 43 rfl))) (z_w hw 43 rfl) (z_w hw 42 rfl) (z_w hw 28 rfl) (z_w hw 44 rfl) f0_1005 (cg2 l Z a0 hw [] b998 b3_992 b2_1005 T1005.heap n0 (Nat.le_trans Z0 K1005.1) f0_1005 f1_1005 f2_1005 f3_1005 f4_1005 be7 c7 ne1014) 0 rfl hml' (argsL := [(.ref b3_992)]) (rest := []) (lenOf ai1 rfl) (hb hby at_177) (fun r1015 T1015 L1015 X1015 hQ1015 => ?_)
              obtain ⟨b6_1015, b2_9_1015, b2_4_9_1015, b7_4_9_1015, b15_4_9_1015, rfl, Nq1015, Kq1015, bv3, ey5, bh1, dq0, be0, cy8, bf0, ca0, an9, cm7, ba5, bw3, cx2, ar5, av6, cv1, bi2, cd2, cl1, cm1, f0_1015, f1_1015, f2_1015, f3_1015, f4_1015, f5_1015, f6_1015, f7_1015, f8_1015, f9_1015, f10_1015, f11_1015, f12_1015, f13_1015, f14_1015, f15_1015, f16_1015, f17_1015, f18_1015⟩ := hQ1015
              have N1015 := Fr.app N1005 Nq1015
              have G1016 := (G1006.keep Kq1005 (ninS ne999 nin0))
              have ne1017 := z_nc G1016.lt bv3
              have ne1018 := z_nc G1016.lt bh1
              have ne1019 := z_nc G1016.lt be0
              have ne1020 := z_nc G1016.lt bf0
              have ne1021 := z_nc G1016.lt an9
              have G1022 := (G1008.keep Kq1005 (ninS ne1001 nin0))
              have ne1023 := z_nc G1022.lt bv3
              have ne1024 := z_nc G1022.lt bh1
              have ne1025 := z_nc G1022.lt be0
              have ne1026 := z_nc G1022.lt bf0
              have ne1027 := z_nc G1022.lt an9
              have ne1028 := z_nc f4_1005.lt bv3
              have ne1029 := z_nc f4_1005.lt bh1
              have ne1030 := z_nc f4_1005.lt be0
              have ne1031 := z_nc f4_1005.lt bf0
              have ne1032 := z_nc f4_1005.lt an9
              have G1033 := (G1010.keep Kq1005)
              have ne1034 := z_nc G1033.lt bv3
              have ne1035 := z_nc G1033.lt bh1
              have ne1036 := z_nc G1033.lt be0
              have ne1037 := z_nc G1033.lt bf0
              have ne1038 := z_nc G1033.lt an9
              have G1039 := (G1012.keep Kq1005)
              have ne1040 := z_nc G1039.lt bv3
              have ne1041 := z_nc G1039.lt bh1
              have ne1042 := z_nc G1039.lt be0
              have ne1043 := z_nc G1039.lt bf0
              have ne1044 := z_nc G1039.lt an9
              have ne1045 := z_nc f0_1005.lt bv3
              have ne1046 := z_nc f0_1005.lt bh1
              have ne1047 := z_nc f0_1005.lt be0
              have ne1048 := z_nc f0_1005.lt bf0
              have ne1049 := z_nc f0_1005.lt an9
              have eq6 := Nat.le_trans K1005.1 bv3
              have dm1 := Nat.le_trans K1005.1 bh1
              have cn9 := Nat.le_trans K1005.1 be0
              have cs0 := Nat.le_trans K1005.1 bf0
              have cz8 := Nat.le_trans K1005.1 an9
              have K1015 := Keep.trans K1005 Kq1015 (allS (Or.inr bm8) (allS (Or.inr cx8) all0))
              show aa0 p e below P (T1015.setTop (mkF m 180 #[.val (.int p0), .val (.int p1), .val (.int p2), .val (.int p3), .val (.int p4), .val (.int cr), .val (.int ca), .val (.int v2), .val (.int (((p4.toUInt32 >>> ((2 : Int32) &&& 31).toUInt32).toInt32) &&& (3 : Int32))), .val (.int v6), .val (.ref b3_8), .val (.ref b3_8), .val (.ref b3_8), .val (.ref b3_992), .val (.ref b998), .unset, .unset, .unset] []))
              refine aw1 X1015 hx (hb hby at_180) rfl rfl ?_
              refine aw1 X1015 hx (hb hby at_182) rfl rfl ?_
              have G1051 := (G1033.keep Kq1015)
              have G1052 := ((((f1_8.keep Kq992 nin0).ext E998).keep Kq1005 (ninS ne1002 nin0)).keep Kq1015 (ninS ne1002 (ninS ne1011 nin0)))
              have G1053 := ((((f2_8.keep Kq992 nin0).ext E998).keep Kq1005 (ninS ne1002 nin0)).keep Kq1015 (ninS ne1002 (ninS ne1011 nin0)))
              have G1054 := ((((f3_8.keep Kq992 nin0).ext E998).keep Kq1005 (ninS ne1002 nin0)).keep Kq1015 (ninS ne1002 (ninS ne1011 nin0)))
              have G1055 := ((((f4_8.keep Kq992 nin0).ext E998).keep Kq1005 (ninS ne1002 nin0)).keep Kq1015 (ninS ne1002 (ninS ne1011 nin0)))
              have G1056 := (ad2 (ad2 ((ad2 G993 Kq992 all0).ext E998) Kq1005 (allS (aw3 A998) all0)) Kq1015 (allS (aw3 f0_1005) (allS (ak9 f4_1005) all0)))
              have G1057 := (G1016.keep Kq1015 (ninS ne999 (ninS ne1007 nin0)))
              refine az1 X1015 hx hZ (y := (⟨z_s1, "enter", z_s7⟩ : MethodName)) (z := (⟨z_s1, "enter", z_s7⟩ : MethodName)) hown (z_w hw 40 rfl) (z_w hw 41 rfl) (notFace_of_selects (args := #[]) (mvT hZ (z_w hw 43 rfl))) (z_w hw 43 rfl) (z_w hw 42 rfl) (z_w hw 28 rfl) (z_w hw 44 rfl) f0_1015 (ch2 l Z a0 hw [] b998 b3_8 b6_1015 ((List.replicate 16 Value.null).set 0 (.ref b6_1015)) (nar .byte (ca.toInt8.toInt32)) (List.replicate 16 Value.null) (List.replicate 16 (0 : Int32)) (List.replicate 16 (0 : Int32)) (0 : Int32) b2_1005 b2_9_1015 b2_4_9_1015 b7_4_9_1015 b15_4_9_1015 (0 : Int32) (0 : Int32) b1_4_8 ab0 T1015.heap n0 (Nat.le_trans Z0 K1015.1) f0_1015 f5_1015 f9_1015 G1051 f1_1015 f2_1015 f3_1015 f6_1015 f10_1015 f11_1015 f12_1015 f13_1015 f14_1015 f15_1015 G1052 G1053 G1054 G1055 G1056 f4_1015 f16_1015 f17_1015 f18_1015 G1057 be7 c7 dq0 cy8 ca0 cm7 cm0 ne1014 ne1046 ne1047 ne1048 ne1049 ne1002.symm ne1029 ne1030 ne1031 ne1032 ne1011.symm cx2 av6 cd2 ne1035.symm cv1 cl1 ne1036.symm cm1 ne1037.symm ne1038.symm ne1045 ne999.symm ne1028 ne1007.symm ba5.symm ne1018.symm bw3.symm ne1019.symm ar5.symm ne1020.symm bi2.symm ne1021.symm ne1034 am7 hnz (by simp only [ap3, ae3, aq3, List.length_set, List.length_replicate]) (by simp only [ap3, ae3, aq3, List.length_set, List.length_replicate]) (by simp only [ap3, ae3, aq3, List.length_set, List.length_replicate]) (Or.inl rfl) (ch0 _) rfl rfl (by rfl)) 0 rfl hml' (argsL := [(.ref b3_8)]) (rest := []) (lenOf ai1 rfl) (hb hby at_184) (fun r1050 T1050 L1050 X1050 hQ1050 => ?_)
              obtain ⟨b13_1050, b2_26_1050, rfl, Nq1050, Kq1050, ak7, cj5, ai6, ca4, bd8, f0_1050, f1_1050, f2_1050, f3_1050, f4_1050, f5_1050, f6_1050, f7_1050, f8_1050, f9_1050, f10_1050, f11_1050, f12_1050, f13_1050, f14_1050, f15_1050, f16_1050, f17_1050, f18_1050, f19_1050, f20_1050, f21_1050, f22_1050, f23_1050, f24_1050, f25_1050, f26_1050⟩ := hQ1050
              have N1050 := Fr.app N1015 Nq1050
              have ne1058 := z_nc f18_1015.lt ak7
              have ne1059 := z_nc f18_1015.lt ai6
              have ne1060 := z_nc G1057.lt ak7
              have ne1061 := z_nc G1057.lt ai6
              have G1062 := (G1022.keep Kq1015 (ninS ne1001 (ninS ne1009 nin0)))
              have ne1063 := z_nc G1062.lt ak7
              have ne1064 := z_nc G1062.lt ai6
              have ne1065 := z_nc f4_1015.lt ak7
              have ne1066 := z_nc f4_1015.lt ai6
              have ne1067 := z_nc f16_1015.lt ak7
              have ne1068 := z_nc f16_1015.lt ai6
              have ne1069 := z_nc f9_1015.lt ak7
              have ne1070 := z_nc f9_1015.lt ai6
              have ne1071 := z_nc G1051.lt ak7
              have ne1072 := z_nc G1051.lt ai6
              have G1073 := (G1039.keep Kq1015)
              have ne1074 := z_nc G1073.lt ak7
              have ne1075 := z_nc G1073.lt ai6
              have ne1076 := z_nc f5_1015.lt ak7
              have ne1077 := z_nc f5_1015.lt ai6
              have ne1078 := z_nc f17_1015.lt ak7
              have ne1079 := z_nc f17_1015.lt ai6
              have ne1080 := z_nc f0_1015.lt ak7
              have ne1081 := z_nc f0_1015.lt ai6
              have ca7 := Nat.le_trans K1015.1 ak7
              have cv4 := Nat.le_trans K1015.1 ai6
              have K1050 := Keep.trans K1015 Kq1050 (allS (Or.inr bm8) (allS (Or.inr cx8) (allS (Or.inr dm1) (allS (Or.inr cn9) (allS (Or.inr cs0) (allS (Or.inr cz8) (allS (Or.inr cj2) all0)))))))
              show aa0 p e below P (T1050.setTop (mkF m 187 #[.val (.int p0), .val (.int p1), .val (.int p2), .val (.int p3), .val (.int p4), .val (.int cr), .val (.int ca), .val (.int v2), .val (.int (((p4.toUInt32 >>> ((2 : Int32) &&& 31).toUInt32).toInt32) &&& (3 : Int32))), .val (.int v6), .val (.ref b3_8), .val (.ref b3_8), .val (.ref b3_8), .val (.ref b3_992), .val (.ref b998), .unset, .unset, .unset] []))
              refine aw1 X1050 hx (hb hby at_187) rfl rfl ?_
              refine az1 X1050 hx hZ (y := (⟨z_s1, "leave", "()V"⟩ : MethodName)) (z := (⟨z_s1, "leave", "()V"⟩ : MethodName)) hown (z_w hw 119 rfl) (z_w hw 120 rfl) (notFace_of_selects (args := #[]) (mvT hZ (z_w hw 122 rfl))) (z_w hw 122 rfl) (z_w hw 121 rfl) (z_w hw 28 rfl) (z_w hw 123 rfl) f0_1050 (az8 l Z a0 hw [] b998 b2_1005 T1050.heap n0 (Nat.le_trans Z0 K1050.1) f0_1050 f3_1050 f4_1050 f5_1050 be7) 0 rfl hml' (argsL := []) (rest := []) (lenOf as2 rfl) (hb hby at_189) (fun r1082 T1082 L1082 X1082 hQ1082 => ?_)
              obtain ⟨rfl, Nq1082, Kq1082, f0_1082, f1_1082, f2_1082, f3_1082⟩ := hQ1082
              have N1082 := Fr.app N1050 Nq1082
              have K1082 := Keep.trans K1050 Kq1082 (allS (Or.inr bm8) all0)
              show aa0 p e below P (T1082.setTop (mkF m 192 #[.val (.int p0), .val (.int p1), .val (.int p2), .val (.int p3), .val (.int p4), .val (.int cr), .val (.int ca), .val (.int v2), .val (.int (((p4.toUInt32 >>> ((2 : Int32) &&& 31).toUInt32).toInt32) &&& (3 : Int32))), .val (.int v6), .val (.ref b3_8), .val (.ref b3_8), .val (.ref b3_8), .val (.ref b3_992), .val (.ref b998), .unset, .unset, .unset] []))
              refine aw1 X1082 hx (hb hby at_192) rfl rfl ?_
              refine aw1 X1082 hx (hb hby at_194) rfl rfl ?_
              have G1084 := ((f5_1015.keep Kq1050).keep Kq1082)
              have G1085 := (f1_1050.keep Kq1082)
              have G1086 := (f20_1050.keep Kq1082)
              have G1087 := (f24_1050.keep Kq1082)
              have G1088 := ((f6_1015.keep Kq1050 (ninS ne1045.symm (ninS ne1028.symm (ninS ba5 (ninS bw3 (ninS ar5 (ninS bi2 (ninS ne1034.symm nin0)))))))).keep Kq1082 (ninS ne1045.symm nin0))
              have G1089 := (f21_1050.keep Kq1082 (ninS ne1080.symm nin0))
              have G1090 := (f22_1050.keep Kq1082 (ninS ne1080.symm nin0))
              have G1091 := (f23_1050.keep Kq1082 (ninS ne1080.symm nin0))
              have G1092 := (f25_1050.keep Kq1082 (ninS ne1081.symm nin0))
              have G1093 := (f26_1050.keep Kq1082 (ninS ne1081.symm nin0))
              have G1094 := (f7_1050.keep Kq1082 (ninS ne1046.symm nin0))
              have G1095 := (f10_1050.keep Kq1082 (ninS ne1046.symm nin0))
              have G1096 := (f11_1050.keep Kq1082 (ninS ne1046.symm nin0))
              have G1097 := (f16_1050.keep Kq1082 (ninS ne1014.symm nin0))
              have G1098 := (f18_1050.keep Kq1082 (ninS ne1048.symm nin0))
              refine az1 X1082 hx hZ (y := (⟨z_s1, "enter", z_s7⟩ : MethodName)) (z := (⟨z_s1, "enter", z_s7⟩ : MethodName)) hown (z_w hw 40 rfl) (z_w hw 41 rfl) (notFace_of_selects (args := #[]) (mvT hZ (z_w hw 43 rfl))) (z_w hw 43 rfl) (z_w hw 42 rfl) (z_w hw 28 rfl) (z_w hw 44 rfl) f0_1082 (ci2 l Z a0 hw [] b998 b3_8 b6_1015 b13_1050 (((List.replicate 16 Value.null).set 0 (.ref b6_1015)).set 1 (.ref b13_1050)) (ai3 false (List.replicate 16 (0 : Int32)) (ah0 (ac0 (nar .byte (ca.toInt8.toInt32)))) (0 : Int32)) (1 : Int32) b2_1005 b2_9_1015 b2_26_1050 b3_8 (ax0 false (0 : Int32)) b7_4_9_1015 (ac0 (nar .byte (ca.toInt8.toInt32))) T1082.heap n0 (Nat.le_trans Z0 K1082.1) f0_1082 G1084 G1085 G1086 G1087 f1_1082 f2_1082 f3_1082 G1088 G1089 G1090 G1091 G1092 G1093 G1094 G1095 G1096 G1097 G1098 be7 cj5 ca4 ca0 ne1080 ne1081 ne1048 bd8 ne1078.symm ne1079.symm ne1045 ne1046 ne1014 ne1076.symm ne1069.symm ne1065.symm ne1077.symm ne1070.symm ne1066.symm ar5.symm av6.symm ne1031.symm (ay4 _) (bs4 _) rfl rfl (by rfl)) 0 rfl hml' (argsL := [(.ref b3_8)]) (rest := []) (lenOf ai1 rfl) (hb hby at_196) (fun r1083 T1083 L1083 X1083 hQ1083 => ?_)
              obtain ⟨rfl, Nq1083, Kq1083, f0_1083, f1_1083, f2_1083, f3_1083, f4_1083, f5_1083, f6_1083, f7_1083, f8_1083, f9_1083, f10_1083, f11_1083⟩ := hQ1083
              have N1083 := Fr.app N1082 Nq1083
              have K1083 := Keep.trans K1082 Kq1083 (allS (Or.inr bm8) (allS (Or.inr ca7) (allS (Or.inr cv4) (allS (Or.inr cs0) all0))))
              show aa0 p e below P (T1083.setTop (mkF m 199 #[.val (.int p0), .val (.int p1), .val (.int p2), .val (.int p3), .val (.int p4), .val (.int cr), .val (.int ca), .val (.int v2), .val (.int (((p4.toUInt32 >>> ((2 : Int32) &&& 31).toUInt32).toInt32) &&& (3 : Int32))), .val (.int v6), .val (.ref b3_8), .val (.ref b3_8), .val (.ref b3_8), .val (.ref b3_992), .val (.ref b998), .unset, .unset, .unset] []))
              refine aw1 X1083 hx (hb hby at_199) rfl rfl ?_
              refine az1 X1083 hx hZ (y := (⟨z_s1, "leave", "()V"⟩ : MethodName)) (z := (⟨z_s1, "leave", "()V"⟩ : MethodName)) hown (z_w hw 119 rfl) (z_w hw 120 rfl) (notFace_of_selects (args := #[]) (mvT hZ (z_w hw 122 rfl))) (z_w hw 122 rfl) (z_w hw 121 rfl) (z_w hw 28 rfl) (z_w hw 123 rfl) f0_1083 (az8 l Z a0 hw [] b998 b2_1005 T1083.heap n0 (Nat.le_trans Z0 K1083.1) f0_1083 f3_1083 f4_1083 f5_1083 be7) 0 rfl hml' (argsL := []) (rest := []) (lenOf as2 rfl) (hb hby at_201) (fun r1099 T1099 L1099 X1099 hQ1099 => ?_)
              obtain ⟨rfl, Nq1099, Kq1099, f0_1099, f1_1099, f2_1099, f3_1099⟩ := hQ1099
              have N1099 := Fr.app N1083 Nq1099
              have K1099 := Keep.trans K1083 Kq1099 (allS (Or.inr bm8) all0)
              show aa0 p e below P (T1099.setTop (mkF m 204 #[.val (.int p0), .val (.int p1), .val (.int p2), .val (.int p3), .val (.int p4), .val (.int cr), .val (.int ca), .val (.int v2), .val (.int (((p4.toUInt32 >>> ((2 : Int32) &&& 31).toUInt32).toInt32) &&& (3 : Int32))), .val (.int v6), .val (.ref b3_8), .val (.ref b3_8), .val (.ref b3_8), .val (.ref b3_992), .val (.ref b998), .unset, .unset, .unset] []))
              refine aw1 X1099 hx (hb hby at_204) rfl rfl ?_
              refine aw1 X1099 hx (hb hby at_206) rfl rfl ?_
              have G1102 := ((G1084.keep Kq1083).keep Kq1099)
              have G1103 := ((G1085.keep Kq1083).keep Kq1099)
              have G1104 := (f1_1083.keep Kq1099)
              have G1105 := (f2_1083.keep Kq1099)
              have G1106 := ((G1088.keep Kq1083 (ninS ne1045.symm (ninS ne1076 (ninS ne1077 (ninS ar5 nin0))))).keep Kq1099 (ninS ne1045.symm nin0))
              have G1107 := (f6_1083.keep Kq1099 (ninS ne1080.symm nin0))
              have G1108 := (f7_1083.keep Kq1099 (ninS ne1080.symm nin0))
              have G1109 := (f8_1083.keep Kq1099 (ninS ne1080.symm nin0))
              have G1110 := (f9_1083.keep Kq1099 (ninS ne1081.symm nin0))
              have G1111 := (f10_1083.keep Kq1099 (ninS ne1081.symm nin0))
              have G1112 := ((G1094.keep Kq1083 (ninS ne1046.symm (ninS ne1069 (ninS ne1070 (ninS av6 nin0))))).keep Kq1099 (ninS ne1046.symm nin0))
              have G1113 := ((G1095.keep Kq1083 (ninS ne1046.symm (ninS ne1069 (ninS ne1070 (ninS av6 nin0))))).keep Kq1099 (ninS ne1046.symm nin0))
              have G1114 := ((G1096.keep Kq1083 (ninS ne1046.symm (ninS ne1069 (ninS ne1070 (ninS av6 nin0))))).keep Kq1099 (ninS ne1046.symm nin0))
              have G1115 := ((G1097.keep Kq1083 (ninS ne1014.symm (ninS ne1065 (ninS ne1066 (ninS ne1031 nin0))))).keep Kq1099 (ninS ne1014.symm nin0))
              have G1116 := (f11_1083.keep Kq1099 (ninS ne1048.symm nin0))
              refine az1 X1099 hx hZ (y := (⟨z_s1, "enter", z_s7⟩ : MethodName)) (z := (⟨z_s1, "enter", z_s7⟩ : MethodName)) hown (z_w hw 40 rfl) (z_w hw 41 rfl) (notFace_of_selects (args := #[]) (mvT hZ (z_w hw 43 rfl))) (z_w hw 43 rfl) (z_w hw 42 rfl) (z_w hw 28 rfl) (z_w hw 44 rfl) f0_1099 (ci2 l Z a0 hw [] b998 b3_8 b6_1015 b13_1050 (((List.replicate 16 Value.null).set 0 (.ref b6_1015)).set 1 (.ref b13_1050)) ((ai3 false (List.replicate 16 (0 : Int32)) (ah0 (ac0 (nar .byte (ca.toInt8.toInt32)))) (0 : Int32)).set (ah0 (ac0 (nar .byte (ca.toInt8.toInt32)))) ((1 : Int32) + (1 : Int32))) (2 : Int32) b2_1005 b2_9_1015 b2_26_1050 b3_8 (2 : Int32) b7_4_9_1015 (ac0 (nar .byte (ca.toInt8.toInt32))) T1099.heap n0 (Nat.le_trans Z0 K1099.1) f0_1099 G1102 G1103 G1104 G1105 f1_1099 f2_1099 f3_1099 G1106 G1107 G1108 G1109 G1110 G1111 G1112 G1113 G1114 G1115 G1116 be7 cj5 ca4 ca0 ne1080 ne1081 ne1048 bd8 ne1078.symm ne1079.symm ne1045 ne1046 ne1014 ne1076.symm ne1069.symm ne1065.symm ne1077.symm ne1070.symm ne1066.symm ar5.symm av6.symm ne1031.symm (ay4 _) (cp2 (by simp only [ae3, List.length_replicate]; exact a5 _)) rfl rfl (by rfl)) 0 rfl hml' (argsL := [(.ref b3_8)]) (rest := []) (lenOf ai1 rfl) (hb hby at_208) (fun r1101 T1101 L1101 X1101 hQ1101 => ?_)
              obtain ⟨rfl, Nq1101, Kq1101, f0_1101, f1_1101, f2_1101, f3_1101, f4_1101, f5_1101, f6_1101, f7_1101, f8_1101, f9_1101, f10_1101, f11_1101⟩ := hQ1101
              have N1101 := Fr.app N1099 Nq1101
              have K1101 := Keep.trans K1099 Kq1101 (allS (Or.inr bm8) (allS (Or.inr ca7) (allS (Or.inr cv4) (allS (Or.inr cs0) all0))))
              show aa0 p e below P (T1101.setTop (mkF m 211 #[.val (.int p0), .val (.int p1), .val (.int p2), .val (.int p3), .val (.int p4), .val (.int cr), .val (.int ca), .val (.int v2), .val (.int (((p4.toUInt32 >>> ((2 : Int32) &&& 31).toUInt32).toInt32) &&& (3 : Int32))), .val (.int v6), .val (.ref b3_8), .val (.ref b3_8), .val (.ref b3_8), .val (.ref b3_992), .val (.ref b998), .unset, .unset, .unset] []))
              refine aw1 X1101 hx (hb hby at_211) rfl rfl ?_
              have G1118 := (G1115.keep Kq1101 (ninS ne1014.symm (ninS ne1065 (ninS ne1066 (ninS ne1031 nin0)))))
              refine az1 X1101 hx hZ (y := (⟨z_s1, "index", "()I"⟩ : MethodName)) (z := (⟨z_s1, "index", "()I"⟩ : MethodName)) hown (z_w hw 132 rfl) (z_w hw 133 rfl) (notFace_of_selects (args := #[]) (mvT hZ (z_w hw 135 rfl))) (z_w hw 135 rfl) (z_w hw 134 rfl) (z_w hw 28 rfl) (z_w hw 136 rfl) f0_1101 (ck0 l Z a0 hw [] b998 b13_1050 (((List.replicate 16 Value.null).set 0 (.ref b6_1015)).set 1 (.ref b13_1050)) b2_1005 (3 : Int32) T1101.heap n0 (Nat.le_trans Z0 K1101.1) f3_1101 f4_1101 f8_1101 G1118 rfl) 0 rfl hml' (argsL := []) (rest := []) (lenOf au4 rfl) (hb hby at_213) (fun r1117 T1117 L1117 X1117 hQ1117 => ?_)
              obtain ⟨rfl, Nq1117, eq1117⟩ := hQ1117
              have N1117 := Fr.app N1101 Nq1117
              show aa0 p e below P (T1117.setTop (mkF m 216 #[.val (.int p0), .val (.int p1), .val (.int p2), .val (.int p3), .val (.int p4), .val (.int cr), .val (.int ca), .val (.int v2), .val (.int (((p4.toUInt32 >>> ((2 : Int32) &&& 31).toUInt32).toInt32) &&& (3 : Int32))), .val (.int v6), .val (.ref b3_8), .val (.ref b3_8), .val (.ref b3_8), .val (.ref b3_992), .val (.ref b998), .unset, .unset, .unset] [(.int (3 : Int32))]))
              refine as4 X1117 hx (hb hby at_216) (l' := #[.val (.int p0), .val (.int p1), .val (.int p2), .val (.int p3), .val (.int p4), .val (.int cr), .val (.int ca), .val (.int v2), .val (.int (((p4.toUInt32 >>> ((2 : Int32) &&& 31).toUInt32).toInt32) &&& (3 : Int32))), .val (.int v6), .val (.ref b3_8), .val (.ref b3_8), .val (.ref b3_8), .val (.ref b3_992), .val (.ref b998), .val (.int (3 : Int32)), .unset, .unset]) rfl ?_
              refine aw1 X1117 hx (hb hby at_218) rfl rfl ?_
              refine az1 X1117 hx hZ (y := (⟨z_s1, "leave", "()V"⟩ : MethodName)) (z := (⟨z_s1, "leave", "()V"⟩ : MethodName)) hown (z_w hw 119 rfl) (z_w hw 120 rfl) (notFace_of_selects (args := #[]) (mvT hZ (z_w hw 122 rfl))) (z_w hw 122 rfl) (z_w hw 121 rfl) (z_w hw 28 rfl) (z_w hw 123 rfl) f0_1101 (az8 l Z a0 hw [] b998 b2_1005 T1101.heap n0 (Nat.le_trans Z0 K1101.1) f0_1101 f3_1101 f4_1101 f5_1101 be7) 0 eq1117 hml' (argsL := []) (rest := []) (lenOf as2 rfl) (hb hby at_220) (fun r1119 T1119 L1119 X1119 hQ1119 => ?_)
              obtain ⟨rfl, Nq1119, Kq1119, f0_1119, f1_1119, f2_1119, f3_1119⟩ := hQ1119
              have N1119 := Fr.app N1117 Nq1119
              have K1119 := Keep.trans K1101 Kq1119 (allS (Or.inr bm8) all0)
              show aa0 p e below P (T1119.setTop (mkF m 223 #[.val (.int p0), .val (.int p1), .val (.int p2), .val (.int p3), .val (.int p4), .val (.int cr), .val (.int ca), .val (.int v2), .val (.int (((p4.toUInt32 >>> ((2 : Int32) &&& 31).toUInt32).toInt32) &&& (3 : Int32))), .val (.int v6), .val (.ref b3_8), .val (.ref b3_8), .val (.ref b3_8), .val (.ref b3_992), .val (.ref b998), .val (.int (3 : Int32)), .unset, .unset] []))
              refine aw1 X1119 hx (hb hby at_223) rfl rfl ?_
              have G1121 := ((((((f8_1015.keep Kq1050 (ninS ne1045.symm (ninS ne1028.symm (ninS ba5 (ninS bw3 (ninS ar5 (ninS bi2 (ninS ne1034.symm nin0)))))))).keep Kq1082 (ninS ne1045.symm nin0)).keep Kq1083 (ninS ne1045.symm (ninS ne1076 (ninS ne1077 (ninS ar5 nin0))))).keep Kq1099 (ninS ne1045.symm nin0)).keep Kq1101 (ninS ne1045.symm (ninS ne1076 (ninS ne1077 (ninS ar5 nin0))))).keep Kq1119 (ninS ne1045.symm nin0))
              have G1122 := (G1118.keep Kq1119 (ninS ne1014.symm nin0))
              refine az1 X1119 hx hZ (y := (⟨z_s1, "index", "()I"⟩ : MethodName)) (z := (⟨z_s1, "index", "()I"⟩ : MethodName)) hown (z_w hw 132 rfl) (z_w hw 133 rfl) (notFace_of_selects (args := #[]) (mvT hZ (z_w hw 135 rfl))) (z_w hw 135 rfl) (z_w hw 134 rfl) (z_w hw 28 rfl) (z_w hw 136 rfl) f0_1119 (cl0 l Z a0 hw [] b998 b6_1015 (((List.replicate 16 Value.null).set 0 (.ref b6_1015)).set 1 (.ref b13_1050)) b2_1005 (1 : Int32) T1119.heap n0 (Nat.le_trans Z0 K1119.1) f1_1119 f2_1119 G1121 G1122 rfl) 0 rfl hml' (argsL := []) (rest := []) (lenOf au4 rfl) (hb hby at_225) (fun r1120 T1120 L1120 X1120 hQ1120 => ?_)
              obtain ⟨rfl, Nq1120, eq1120⟩ := hQ1120
              have N1120 := Fr.app N1119 Nq1120
              show aa0 p e below P (T1120.setTop (mkF m 228 #[.val (.int p0), .val (.int p1), .val (.int p2), .val (.int p3), .val (.int p4), .val (.int cr), .val (.int ca), .val (.int v2), .val (.int (((p4.toUInt32 >>> ((2 : Int32) &&& 31).toUInt32).toInt32) &&& (3 : Int32))), .val (.int v6), .val (.ref b3_8), .val (.ref b3_8), .val (.ref b3_8), .val (.ref b3_992), .val (.ref b998), .val (.int (3 : Int32)), .unset, .unset] [(.int (1 : Int32))]))
              refine as4 X1120 hx (hb hby at_228) (l' := #[.val (.int p0), .val (.int p1), .val (.int p2), .val (.int p3), .val (.int p4), .val (.int cr), .val (.int ca), .val (.int v2), .val (.int (((p4.toUInt32 >>> ((2 : Int32) &&& 31).toUInt32).toInt32) &&& (3 : Int32))), .val (.int v6), .val (.ref b3_8), .val (.ref b3_8), .val (.ref b3_8), .val (.ref b3_992), .val (.ref b998), .val (.int (3 : Int32)), .val (.int (1 : Int32)), .unset]) rfl ?_
              refine az0 X1120 hx (hb hby at_230) (z := (1 : Int32)) rfl ?_
              refine ay1 X1120 hx (hb hby at_231) rfl ?_
              refine ay1 X1120 hx (hb hby at_233) rfl ?_
              have J1125 : ∀ v1124 : Int32, v1124 = (if ca = v6 then (1 : Int32) else (0 : Int32)) → aa0 p e below P (T1120.setTop (mkF m 243 #[.val (.int p0), .val (.int p1), .val (.int p2), .val (.int p3), .val (.int p4), .val (.int cr), .val (.int ca), .val (.int v2), .val (.int (((p4.toUInt32 >>> ((2 : Int32) &&& 31).toUInt32).toInt32) &&& (3 : Int32))), .val (.int v6), .val (.ref b3_8), .val (.ref b3_8), .val (.ref b3_8), .val (.ref b3_992), .val (.ref b998), .val (.int (3 : Int32)), .val (.int (1 : Int32)), .unset] [(.int v1124), (.int (1 : Int32))])) := by
                intro v1124 e_v1124
                refine ad6 X1120 hx (hb hby at_243) (z := ((1 : Int32) + v1124)) rfl ?_
                refine ay1 X1120 hx (hb hby at_244) rfl ?_
                refine ay1 X1120 hx (hb hby at_246) rfl ?_
                have J1128 : ∀ v1127 : Int32, v1127 = (if v2 = v6 then (1 : Int32) else (0 : Int32)) → aa0 p e below P (T1120.setTop (mkF m 256 #[.val (.int p0), .val (.int p1), .val (.int p2), .val (.int p3), .val (.int p4), .val (.int cr), .val (.int ca), .val (.int v2), .val (.int (((p4.toUInt32 >>> ((2 : Int32) &&& 31).toUInt32).toInt32) &&& (3 : Int32))), .val (.int v6), .val (.ref b3_8), .val (.ref b3_8), .val (.ref b3_8), .val (.ref b3_992), .val (.ref b998), .val (.int (3 : Int32)), .val (.int (1 : Int32)), .unset] [(.int v1127), (.int ((1 : Int32) + v1124))])) := by
                  intro v1127 e_v1127
                  refine ad6 X1120 hx (hb hby at_256) (z := (((1 : Int32) + v1124) + v1127)) rfl ?_
                  refine as4 X1120 hx (hb hby at_257) (l' := #[.val (.int p0), .val (.int p1), .val (.int p2), .val (.int p3), .val (.int p4), .val (.int cr), .val (.int ca), .val (.int v2), .val (.int (((p4.toUInt32 >>> ((2 : Int32) &&& 31).toUInt32).toInt32) &&& (3 : Int32))), .val (.int v6), .val (.ref b3_8), .val (.ref b3_8), .val (.ref b3_8), .val (.ref b3_992), .val (.ref b998), .val (.int (3 : Int32)), .val (.int (1 : Int32)), .val (.int (((1 : Int32) + v1124) + v1127))]) rfl ?_
                  refine ay1 X1120 hx (hb hby at_259) rfl ?_
                  refine ay1 X1120 hx (hb hby at_261) rfl ?_
                  have hd1129 : (3 : Int32) = (((1 : Int32) + v1124) + v1127) := by rw [e_v1124, e_v1127]; exact ez0 hc655 hc991
                  refine a4 X1120 hx (hb hby at_263) (teq hd1129).2 ?_
                  refine ay1 X1120 hx (hb hby at_266) rfl ?_
                  refine az0 X1120 hx (hb hby at_268) (z := (1 : Int32)) rfl ?_
                  refine a4 X1120 hx (hb hby at_269) (teq (by decide : (1 : Int32) = (1 : Int32))).2 ?_
                  refine az0 X1120 hx (hb hby at_272) (z := (1 : Int32)) rfl ?_
                  refine ao4 X1120 hx (pc' := 277) (hb hby at_273) ?_
                  exact bd1 X1120 hx hlk hP (t := .boolean) (by simp) hrt (hb hby at_277) (by decide) (by decide) ⟨rfl, N1120⟩
                by_cases hc1126 : v2 = v6
                · refine a4 X1120 hx (hb hby at_248) (teq hc1126).2 ?_
                  refine az0 X1120 hx (hb hby at_251) (z := (1 : Int32)) rfl ?_
                  refine ao4 X1120 hx (pc' := 256) (hb hby at_252) ?_
                  exact J1128 _ ((if_pos hc1126).trans (rfl)).symm
                · refine au3 X1120 hx (pc' := 255) (hb hby at_248) (feq hc1126).2 ?_
                  refine az0 X1120 hx (hb hby at_255) (z := (0 : Int32)) rfl ?_
                  exact J1128 _ ((if_neg hc1126).trans (rfl)).symm
              by_cases hc1123 : ca = v6
              · refine a4 X1120 hx (hb hby at_235) (teq hc1123).2 ?_
                refine az0 X1120 hx (hb hby at_238) (z := (1 : Int32)) rfl ?_
                refine ao4 X1120 hx (pc' := 243) (hb hby at_239) ?_
                exact J1125 _ ((if_pos hc1123).trans (rfl)).symm
              · refine au3 X1120 hx (pc' := 242) (hb hby at_235) (feq hc1123).2 ?_
                refine az0 X1120 hx (hb hby at_242) (z := (0 : Int32)) rfl ?_
                exact J1125 _ ((if_neg hc1123).trans (rfl)).symm
            · refine au3 X8 hx (pc' := 128) (hb hby at_118) (feq hc991).2 ?_
              exact Jn849
        · refine au3 X8 hx (pc' := 99) (hb hby at_91) (feq hc655).2 ?_
          exact Jn9
    by_cases hc4 : (((p4.toUInt32 >>> ((2 : Int32) &&& 31).toUInt32).toInt32) &&& (3 : Int32)) = (0 : Int32)
    · refine aq7 X0 hx (hb hby at_46) ((if0 _ _).trans (teq hc4).2) ?_
      refine ay1 X0 hx (hb hby at_49) rfl ?_
      refine ao4 X0 hx (pc' := 71) (hb hby at_51) ?_
      exact J7 _ ((if_pos hc4).trans (rfl)).symm
    · refine al7 X0 hx (pc' := 54) (hb hby at_46) ((if0 _ _).trans (feq hc4).2) ?_
      refine ay1 X0 hx (hb hby at_54) rfl ?_
      refine az0 X0 hx (hb hby at_56) (z := (1 : Int32)) rfl ?_
      by_cases hc1130 : (((p4.toUInt32 >>> ((2 : Int32) &&& 31).toUInt32).toInt32) &&& (3 : Int32)) = (1 : Int32)
      · refine a4 X0 hx (hb hby at_57) (teq hc1130).2 ?_
        refine ay1 X0 hx (hb hby at_60) rfl ?_
        refine ao4 X0 hx (pc' := 71) (hb hby at_62) ?_
        exact J7 _ ((if_neg hc4).trans ((if_pos hc1130).trans (rfl))).symm
      · refine au3 X0 hx (pc' := 65) (hb hby at_57) (feq hc1130).2 ?_
        refine ae1 X0 hx (hb hby at_65) rfl ?_
        refine be8 X0 hx (hb hby at_66) (z := (255 : Int32)) rfl ?_
        refine az7 X0 hx (hb hby at_69) (z := (p3 &&& (255 : Int32))) rfl ?_
        refine dr0 X0 hx (hb hby at_70) (z := ((p3 &&& (255 : Int32)).toUInt32.toUInt16.toUInt32.toInt32)) rfl ?_
        exact J7 _ ((if_neg hc4).trans ((if_neg hc1130).trans (rfl))).symm
  by_cases hc1 : (p4 &&& (2 : Int32)) = (0 : Int32)
  · refine al7 X0 hx (pc' := 28) (hb hby at_20) ((if0 _ _).trans (teq hc1).1) ?_
    refine ae1 X0 hx (hb hby at_28) rfl ?_
    refine be8 X0 hx (hb hby at_29) (z := (255 : Int32)) rfl ?_
    refine az7 X0 hx (hb hby at_32) (z := (p2 &&& (255 : Int32))) rfl ?_
    refine dr0 X0 hx (hb hby at_33) (z := ((p2 &&& (255 : Int32)).toUInt32.toUInt16.toUInt32.toInt32)) rfl ?_
    exact J3 _ ((if_pos hc1).trans (rfl)).symm
  · refine aq7 X0 hx (hb hby at_20) ((if0 _ _).trans (feq hc1).1) ?_
    refine ay1 X0 hx (hb hby at_23) rfl ?_
    refine ao4 X0 hx (pc' := 34) (hb hby at_25) ?_
    exact J3 _ ((if_neg hc1).trans (rfl)).symm
set_option maxRecDepth 65536 in
set_option maxHeartbeats 40000000 in
theorem comes_1 {Post : Tables → Env → Array Value → State → Outcome → State → Prop} (hpost : ∀ tb e args s v u, (limb_1_1.after args s (.returned v) u = true ∧ limb_1_2.after args s (.returned v) u = true ∧ True) → FrameEnd s (.returned v) u (Jvm.fieldLocs frame_1_writes args s ++ Jvm.arrayLocs frame_1_arrays args s ++ Jvm.staticLocs frame_1_statics s) 56 640 → Post tb e args s (.returned v) u) :
    ArmFor flags0 classFile x code maxLocals ret World_1 tables_1 room_1 Calls_1 rest_1 Pre_1 Post := by
  intro l hfl _ _ p e ha hc hk s m args below hf hA hF happ hP
  obtain ⟨hcalls, hrest, hpre⟩ := hP
  obtain ⟨-, -, -, hnamed, -, -, -, hat⟩ := (Spec.applies_iff hf).mp happ
  obtain ⟨hg, hn⟩ := and_e (Cond.before_iff.mp (show (Jvm.Cond.and given_1 narrow_1).before args s = true from hpre))
  obtain ⟨k1, l1⟩ := and_e hg
  obtain ⟨k2, l2⟩ := and_e l1
  obtain ⟨k3, l3⟩ := and_e l2
  obtain ⟨k4, l4⟩ := and_e l3
  obtain ⟨k5, l5⟩ := and_e l4
  obtain ⟨w0, w1, w2, w3, w4, rfl⟩ : ∃ w0 w1 w2 w3 w4 : Value, args = #[w0, w1, w2, w3, w4] := by
    have hs : args.size = 5 := by simpa [Cond.value, given_1] using k1
    obtain ⟨L⟩ := args
    match L, hs with
    | [w0, w1, w2, w3, w4], _ => exact ⟨w0, w1, w2, w3, w4, rfl⟩
  have hw := fun d (hd : d ∈ tables_1) => atoms_spec (ws := Jvm.Cond.code x code maxLocals ret :: tables_1) hat d (List.mem_cons_of_mem _ hd)
  have hfit : Fit s := fun {y c} hc i hi => by
    obtain ⟨ha, rfl⟩ := Array.getElem?_eq_some_iff.mp hc
    have q := List.all_eq_true.mp ((Array.all_eq_true_iff_forall_mem.mp hF) _ (Array.getElem_mem ha)) i (List.mem_range.mpr hi)
    simpa [Array.getElem?_eq_getElem hi] using q
  obtain ⟨hsets, hown0⟩ := atoms_of _ (rest_1_c_eq ▸ (show rest_1_c.before _ s = true from hrest))
  have hr0 := Cond.before_iff.mp hown0
  obtain ⟨i0, ei0⟩ := is_v k2
  obtain rfl : w0 = (.int i0) := Option.some.inj ei0
  obtain ⟨i1, ei1⟩ := is_v k3
  obtain rfl : w1 = (.int i1) := Option.some.inj ei1
  obtain ⟨i2, ei2⟩ := is_v k4
  obtain rfl : w2 = (.int i2) := Option.some.inj ei2
  obtain ⟨i3, ei3⟩ := is_v k5
  obtain rfl : w3 = (.int i3) := Option.some.inj ei3
  obtain ⟨i4, ei4⟩ := is_v l5
  obtain rfl : w4 = (.int i4) := Option.some.inj ei4
  have hi0 := is_v (Cond.before_iff.mp (hsets _ (List.mem_of_getElem? (i := 1) rfl)))
  obtain ⟨cz, ecz⟩ := hi0
  have S1 : Sta s s.heap z_s2 "COMPACT_STRINGS" "Z" (.int cz) := Sta.start ecz (Or.inl (hsets _ (List.mem_of_getElem? (i := 0) rfl)))
  have hcz : ¬ (cz = (0 : Int32)) := gotF (Cond.eq_ints ecz (Term.int_eval (0))) (not_v (Cond.before_iff.mp (hsets _ (List.mem_of_getElem? (i := 2) rfl))))
  obtain ⟨n, o, h1, h2, h3, _, L, rfl, ⟨rfl, N⟩, hq⟩ := ec5 l s _ hw tables_1 i0 i1 i2 i3 i4 cz s.heap s.heap.size (Nat.le_refl _) S1 hcz p e ha hc hk s m _ below hf ((Spec.applies_iff_loose hf).mp happ).1 ⟨rfl, State.Warmed39.refl s, rfl⟩ trivial
  refine ⟨n, _, h1, h2, h3, hpost _ _ _ _ _ _ ⟨Cond.after_iff.mpr rfl, Cond.after_iff.mpr (eq_i res_at (Term.int_eval (1)) rfl), trivial⟩ ⟨hq.1, hq.2.1, (hq.2.2.sift fun y hy => Or.inr (N y hy)).mono (by decide) (by decide)⟩⟩
theorem main_1_1 : Claimed_1_1 := comes_1 fun _ _ _ _ _ _ h hF => ⟨h.1, hF⟩
theorem main_1_2 : Claimed_1_2 := comes_1 fun _ _ _ _ _ _ h hF => ⟨h.2.1, hF⟩
end Jvm.Pilot.@@N@@
namespace Jvm.Pilot.@@N@@
open Jvm Jvm.ClassFile Sem Op Lib Jvm.Free Jvm.Stand Jvm.Pilot.@@N@@.Jvm.D
/-! MADE BY PROGRAM (witnessworld.py) out of the Statement's table words and the real class files: 24 classes; the members and pool entries that the words name. The judged class is class 1, her method 1. -/
namespace start1
open Jvm.ClassFile
def u (s : String) : CpInfo := .utf8 (stringToUtf16 s)
/-- a pool by its gaps: so many unusable entries, then the entry; so many at the end -/
def gap : Nat → List CpInfo → List CpInfo
  | 0, r => r
  | n + 1, r => .unusable :: gap n r
def poolList (es : List (Nat × CpInfo)) (last : Nat) : List CpInfo := es.foldr (fun e r => gap e.1 (e.2 :: r)) (gap last [])
def pool (es : List (Nat × CpInfo)) (last : Nat) : Array CpInfo := ⟨poolList es last⟩
def fileOf (pool : Array CpInfo) (this : Nat) (attrs : Array Attribute := #[]) (ms : Array MethodInfo := #[]) (fl : Nat := 33) (sup : Nat := 0) (ifs : Array Nat := #[]) (fds : Array FieldInfo := #[]) : ClassFile where
  minorVersion := 0
  majorVersion := 65
  constantPool := pool
  accessFlags := fl
  thisClass := this
  superClass := sup
  interfaces := ifs
  fields := fds
  methods := ms
  attributes := attrs
def plain (name : String) (sup : Option ClassId) : Class where
  name := name
  kind := .ordinary
  loader := none
  accessFlags := 33
  super := sup
  interfaces := #[]
  cf := none
  fields := #[]
  methods := #[]
  instanceTypes := #[]
  staticTypes := #[]
  resolved := #[]
  callSites := []
  init := .initialized
  statics := none
  mirror := none

def pool0 : Array CpInfo := pool [(5, u "<init>"), (0, u "()V"), (1, .class_ 10), (1, u "java/lang/Object")] 113

def k0c0 : Code := { maxStack := 0, maxLocals := 1, code := object_method_1_code, exceptionTable := #[], attributes := #[] }
def k0m0 : Method := { name := "<init>", desc := "()V", sig := { parameters := [], returnType := none }, accessFlags := 1, code := some k0c0 }
/-- java/lang/Object -/
def k0 : Class := { plain "java/lang/Object" none with
  accessFlags := 33
  interfaces := #[]
  cf := some (fileOf pool0 8 #[] #[{ accessFlags := 1, nameIndex := 5, descriptorIndex := 6, attributes := #[] }] 33 0 #[] #[])
  fields := #[]
  methods := #[k0m0]
  instanceTypes := #[]
  staticTypes := #[]
  resolved := Array.replicate 124 none
  statics := none }

def pool1 : Array CpInfo := pool [(2, .class_ 4), (0, .nameAndType 5 6), (0, u "java/lang/Object"), (0, u "<init>"), (0, u "()V"), (0, .methodref 8 9), (0, .class_ 10), (0, .nameAndType 11 12), (0, u "java/lang/String"), (0, u "valueOf"), (0, u "(C)Ljava/lang/String;"), (0, .class_ 14), (0, u "com/example/tallywire/tallywire/rules/ElementPath"), (0, .methodref 13 3), (0, .methodref 13 17), (0, .nameAndType 18 19), (0, u "enter"), (0, u "(Ljava/lang/String;)V"), (0, .methodref 13 21), (0, .nameAndType 22 6), (0, u "leave"), (0, .methodref 13 24), (0, .nameAndType 25 26), (0, u "index"), (0, u "()I"), (0, .class_ 28), (0, u "com/example/tallywire/tallywire/rules/ElementPathIndexPinLaw"), (2, u "law"), (0, u "(IIIII)Z")] 3

def k1m0 : Method := { name := "<init>", desc := "()V", sig := { parameters := [], returnType := none }, accessFlags := 1, code := none }
def k1c1 : Code := { maxStack := 3, maxLocals := 18, code := code, exceptionTable := #[], attributes := #[] }
def k1m1 : Method := { name := "law", desc := "(IIIII)Z", sig := { parameters := [.int, .int, .int, .int, .int], returnType := some .boolean }, accessFlags := 9, code := some k1c1 }
/-- com/example/tallywire/tallywire/rules/ElementPathIndexPinLaw -/
def k1 : Class := { plain "com/example/tallywire/tallywire/rules/ElementPathIndexPinLaw" (some 0) with
  accessFlags := 49
  interfaces := #[]
  cf := some (fileOf pool1 27 #[] #[{ accessFlags := 1, nameIndex := 5, descriptorIndex := 6, attributes := #[] }, { accessFlags := 9, nameIndex := 31, descriptorIndex := 32, attributes := #[] }] 49 2 #[] #[])
  fields := #[]
  methods := #[k1m0, k1m1]
  instanceTypes := #[]
  staticTypes := #[]
  resolved := Array.replicate 36 none
  statics := none }

def pool2 : Array CpInfo := pool [(1, .class_ 2), (0, u "java/io/Serializable"), (0, .class_ 4), (0, u "java/lang/Object")] 2

/-- java/io/Serializable -/
def k2 : Class := { plain "java/io/Serializable" (some 0) with
  accessFlags := 1537
  interfaces := #[]
  cf := some (fileOf pool2 1 #[] #[] 1537 3 #[] #[])
  fields := #[]
  methods := #[]
  instanceTypes := #[]
  staticTypes := #[]
  resolved := Array.replicate 7 none
  statics := none }

def pool3 : Array CpInfo := pool [(1, .class_ 2), (0, u "java/lang/Comparable"), (0, .class_ 4), (0, u "java/lang/Object")] 7

/-- java/lang/Comparable -/
def k3 : Class := { plain "java/lang/Comparable" (some 0) with
  accessFlags := 1537
  interfaces := #[]
  cf := some (fileOf pool3 1 #[] #[] 1537 3 #[] #[])
  fields := #[]
  methods := #[]
  instanceTypes := #[]
  staticTypes := #[]
  resolved := Array.replicate 12 none
  statics := none }

def pool4 : Array CpInfo := pool [(2, .class_ 4), (1, u "java/lang/CharSequence"), (42, .class_ 48), (0, u "java/lang/CharSequence$1CodePointIterator"), (10, .class_ 60), (0, u "java/lang/CharSequence$1CharIterator"), (5, .class_ 67), (0, u "java/lang/Object")] 63

/-- java/lang/CharSequence -/
def k4 : Class := { plain "java/lang/CharSequence" (some 0) with
  accessFlags := 1537
  interfaces := #[]
  cf := some (fileOf pool4 2 #[.nestMembers #[47, 59]] #[] 1537 66 #[] #[])
  fields := #[]
  methods := #[]
  instanceTypes := #[]
  staticTypes := #[]
  resolved := Array.replicate 131 none
  statics := none }

def pool5 : Array CpInfo := pool [(1, .class_ 2), (0, u "java/lang/constant/Constable"), (0, .class_ 4), (0, u "java/lang/Object")] 6

/-- java/lang/constant/Constable -/
def k5 : Class := { plain "java/lang/constant/Constable" (some 0) with
  accessFlags := 1537
  interfaces := #[]
  cf := some (fileOf pool5 1 #[] #[] 1537 3 #[] #[])
  fields := #[]
  methods := #[]
  instanceTypes := #[]
  staticTypes := #[]
  resolved := Array.replicate 11 none
  statics := none }

def pool6 : Array CpInfo := pool [(1, .class_ 2), (0, u "java/lang/constant/ConstantDesc"), (0, .class_ 4), (0, u "java/lang/Object")] 32

/-- java/lang/constant/ConstantDesc -/
def k6 : Class := { plain "java/lang/constant/ConstantDesc" (some 0) with
  accessFlags := 1537
  interfaces := #[]
  cf := some (fileOf pool6 1 #[] #[] 1537 3 #[] #[])
  fields := #[]
  methods := #[]
  instanceTypes := #[]
  staticTypes := #[]
  resolved := Array.replicate 37 none
  statics := none }

def pool7 : Array CpInfo := pool [(1, .methodref 2 3), (0, .class_ 4), (0, .nameAndType 5 6), (0, u "java/lang/Object"), (0, u "<init>"), (0, u "()V"), (2, .fieldref 10 11), (0, .class_ 12), (0, .nameAndType 13 14), (0, u "java/lang/String"), (0, u "value"), (0, u "[B"), (0, .fieldref 10 16), (0, .nameAndType 17 18), (0, u "coder"), (0, u "B"), (0, .fieldref 10 20), (0, .nameAndType 21 22), (0, u "hash"), (0, u "I"), (0, .fieldref 10 24), (0, .nameAndType 25 26), (0, u "hashIsZero"), (0, u "Z"), (11, .fieldref 10 39), (0, .nameAndType 40 26), (0, u "COMPACT_STRINGS"), (12, u "toBytes"), (53, .class_ 109), (1, u "java/lang/StringLatin1"), (32, u "()Z"), (66, .methodref 10 210), (0, .nameAndType 5 211), (0, u "([BB)V"), (122, u "()I"), (34, u "(C)Z"), (122, .methodref 10 493), (0, .nameAndType 494 142), (0, u "isLatin1"), (46, .methodref 107 542), (0, .nameAndType 543 544), (0, u "equals"), (0, u "([B[B)Z"), (28, u "(Ljava/lang/Object;)Z"), (1, .class_ 576), (0, u "java/lang/CharSequence"), (22, u "CASE_INSENSITIVE_ORDER"), (0, u "Ljava/util/Comparator;"), (27, .methodref 107 629), (0, .nameAndType 630 631), (0, u "hashCode"), (0, u "([B)I"), (150, u "valueOf"), (0, u "(C)Ljava/lang/String;"), (231, .methodref 107 1016), (0, .nameAndType 1017 369), (0, u "canEncode"), (0, .methodref 107 1019), (0, .nameAndType 53 1020), (0, u "(C)[B"), (80, u "serialPersistentFields"), (0, u "[Ljava/io/ObjectStreamField;"), (0, .class_ 1104), (0, u "java/lang/String$CaseInsensitiveComparator"), (1, .class_ 1107), (0, u "java/io/Serializable"), (0, .class_ 1109), (0, u "java/lang/Comparable"), (0, .class_ 1111), (0, u "java/lang/constant/Constable"), (0, .class_ 1113), (0, u "java/lang/constant/ConstantDesc"), (2, u "serialVersionUID"), (0, u "J"), (3, u "REPL"), (0, u "C"), (2, u "LATIN1"), (1, u "UTF16")] 323

def k7m0 : Method := { name := "<init>", desc := "()V", sig := { parameters := [], returnType := none }, accessFlags := 1, code := none }
def k7c1 : Code := { maxStack := 2, maxLocals := 3, code := jdk_42_method_66_code, exceptionTable := #[], attributes := #[] }
def k7m1 : Method := { name := "equals", desc := "(Ljava/lang/Object;)Z", sig := { parameters := [(.object "java/lang/Object")], returnType := some .boolean }, accessFlags := 1, code := some k7c1 }
def k7c2 : Code := { maxStack := 2, maxLocals := 2, code := jdk_42_method_78_code, exceptionTable := #[], attributes := #[] }
def k7m2 : Method := { name := "hashCode", desc := "()I", sig := { parameters := [], returnType := some .int }, accessFlags := 1, code := some k7c2 }
def k7c3 : Code := { maxStack := 4, maxLocals := 1, code := jdk_42_method_139_code, exceptionTable := #[], attributes := #[] }
def k7m3 : Method := { name := "valueOf", desc := "(C)Ljava/lang/String;", sig := { parameters := [.char], returnType := some (.object "java/lang/String") }, accessFlags := 9, code := some k7c3 }
def k7c4 : Code := { maxStack := 2, maxLocals := 3, code := jdk_42_method_151_code, exceptionTable := #[], attributes := #[] }
def k7m4 : Method := { name := "<init>", desc := "([BB)V", sig := { parameters := [(.array .byte), .byte], returnType := none }, accessFlags := 0, code := some k7c4 }
def k7c5 : Code := { maxStack := 1, maxLocals := 1, code := jdk_42_method_154_code, exceptionTable := #[], attributes := #[] }
def k7m5 : Method := { name := "isLatin1", desc := "()Z", sig := { parameters := [], returnType := some .boolean }, accessFlags := 0, code := some k7c5 }
/-- java/lang/String -/
def k7 : Class := { plain "java/lang/String" (some 0) with
  accessFlags := 49
  interfaces := #[2, 3, 4, 5, 6]
  cf := some (fileOf pool7 10 #[.nestMembers #[1103]] #[{ accessFlags := 1, nameIndex := 5, descriptorIndex := 6, attributes := #[] }, { accessFlags := 1, nameIndex := 543, descriptorIndex := 573, attributes := #[] }, { accessFlags := 1, nameIndex := 630, descriptorIndex := 334, attributes := #[] }, { accessFlags := 9, nameIndex := 782, descriptorIndex := 783, attributes := #[] }, { accessFlags := 0, nameIndex := 5, descriptorIndex := 211, attributes := #[] }, { accessFlags := 0, nameIndex := 494, descriptorIndex := 142, attributes := #[] }] 49 2 #[1106, 1108, 575, 1110, 1112] #[{ accessFlags := 18, nameIndex := 13, descriptorIndex := 14, attributes := #[] }, { accessFlags := 18, nameIndex := 17, descriptorIndex := 18, attributes := #[] }, { accessFlags := 2, nameIndex := 21, descriptorIndex := 22, attributes := #[] }, { accessFlags := 2, nameIndex := 25, descriptorIndex := 26, attributes := #[] }, { accessFlags := 26, nameIndex := 1116, descriptorIndex := 1117, attributes := #[] }, { accessFlags := 24, nameIndex := 40, descriptorIndex := 26, attributes := #[] }, { accessFlags := 26, nameIndex := 1101, descriptorIndex := 1102, attributes := #[] }, { accessFlags := 26, nameIndex := 1121, descriptorIndex := 1122, attributes := #[] }, { accessFlags := 25, nameIndex := 599, descriptorIndex := 600, attributes := #[] }, { accessFlags := 24, nameIndex := 1125, descriptorIndex := 18, attributes := #[] }, { accessFlags := 24, nameIndex := 1127, descriptorIndex := 18, attributes := #[] }])
  fields := #[{ name := "value", type := (.array .byte), accessFlags := 18, slot := 0, constantValue := 0 }, { name := "coder", type := .byte, accessFlags := 18, slot := 1, constantValue := 0 }, { name := "hash", type := .int, accessFlags := 2, slot := 2, constantValue := 0 }, { name := "hashIsZero", type := .boolean, accessFlags := 2, slot := 3, constantValue := 0 }, { name := "serialVersionUID", type := .long, accessFlags := 26, slot := 0, constantValue := 0 }, { name := "COMPACT_STRINGS", type := .boolean, accessFlags := 24, slot := 1, constantValue := 0 }, { name := "serialPersistentFields", type := (.array (.object "java/io/ObjectStreamField")), accessFlags := 26, slot := 2, constantValue := 0 }, { name := "REPL", type := .char, accessFlags := 26, slot := 3, constantValue := 0 }, { name := "CASE_INSENSITIVE_ORDER", type := (.object "java/util/Comparator"), accessFlags := 25, slot := 4, constantValue := 0 }, { name := "LATIN1", type := .byte, accessFlags := 24, slot := 5, constantValue := 0 }, { name := "UTF16", type := .byte, accessFlags := 24, slot := 6, constantValue := 0 }]
  methods := #[k7m0, k7m1, k7m2, k7m3, k7m4, k7m5]
  instanceTypes := #[(.array .byte), .byte, .int, .boolean]
  staticTypes := #[.long, .boolean, (.array (.object "java/io/ObjectStreamField")), .char, (.object "java/util/Comparator"), .byte, .byte]
  resolved := Array.replicate 1451 none
  statics := some 0 }

def pool8 : Array CpInfo := pool [(4, .class_ 6), (1, u "java/lang/Object"), (0, u "<init>"), (0, u "()V"), (5, .class_ 16), (1, u "java/lang/StringLatin1"), (40, u "([B)I"), (32, u "canEncode"), (14, u "(C)Z"), (15, u "$assertionsDisabled"), (0, u "Z"), (98, .class_ 223), (1, u "java/lang/StringLatin1$LinesSpliterator"), (57, u "equals"), (0, u "([B[B)Z"), (15, u "hashCode"), (81, u "toBytes"), (1, u "(C)[B"), (7, .class_ 391), (0, u "java/lang/StringLatin1$CharsSpliterator")] 3

def k8m0 : Method := { name := "<init>", desc := "()V", sig := { parameters := [], returnType := none }, accessFlags := 0, code := none }
def k8c1 : Code := { maxStack := 2, maxLocals := 1, code := jdk_43_method_3_code, exceptionTable := #[], attributes := #[] }
def k8m1 : Method := { name := "canEncode", desc := "(C)Z", sig := { parameters := [.char], returnType := some .boolean }, accessFlags := 9, code := some k8c1 }
def k8c2 : Code := { maxStack := 3, maxLocals := 3, code := jdk_43_method_13_code, exceptionTable := #[], attributes := #[] }
def k8m2 : Method := { name := "equals", desc := "([B[B)Z", sig := { parameters := [(.array .byte), (.array .byte)], returnType := some .boolean }, accessFlags := 9, code := some k8c2 }
def k8c3 : Code := { maxStack := 5, maxLocals := 1, code := jdk_43_method_21_code, exceptionTable := #[], attributes := #[] }
def k8m3 : Method := { name := "hashCode", desc := "([B)I", sig := { parameters := [(.array .byte)], returnType := some .int }, accessFlags := 9, code := some k8c3 }
def k8c4 : Code := { maxStack := 4, maxLocals := 1, code := jdk_43_method_46_code, exceptionTable := #[], attributes := #[] }
def k8m4 : Method := { name := "toBytes", desc := "(C)[B", sig := { parameters := [.char], returnType := some (.array .byte) }, accessFlags := 9, code := some k8c4 }
/-- java/lang/StringLatin1 -/
def k8 : Class := { plain "java/lang/StringLatin1" (some 0) with
  accessFlags := 48
  interfaces := #[]
  cf := some (fileOf pool8 14 #[.nestMembers #[390, 221]] #[{ accessFlags := 0, nameIndex := 7, descriptorIndex := 8, attributes := #[] }, { accessFlags := 9, nameIndex := 90, descriptorIndex := 105, attributes := #[] }, { accessFlags := 9, nameIndex := 281, descriptorIndex := 282, attributes := #[] }, { accessFlags := 9, nameIndex := 298, descriptorIndex := 57, attributes := #[] }, { accessFlags := 9, nameIndex := 380, descriptorIndex := 382, attributes := #[] }] 48 4 #[] #[{ accessFlags := 4120, nameIndex := 121, descriptorIndex := 122, attributes := #[] }])
  fields := #[{ name := "$assertionsDisabled", type := .boolean, accessFlags := 4120, slot := 0, constantValue := 0 }]
  methods := #[k8m0, k8m1, k8m2, k8m3, k8m4]
  instanceTypes := #[]
  staticTypes := #[.boolean]
  resolved := Array.replicate 395 none
  statics := none }

def pool9 : Array CpInfo := pool [(1, .methodref 2 3), (0, .class_ 4), (0, .nameAndType 5 6), (0, u "java/lang/Object"), (0, u "<init>"), (0, u "()V"), (0, .class_ 8), (0, u "com/example/tallywire/tallywire/rules/ElementPath"), (0, .class_ 10), (0, u "com/example/tallywire/tallywire/rules/ElementPath$Level"), (0, .fieldref 7 12), (0, .nameAndType 13 14), (0, u "levels"), (0, u "[Lcom/example/tallywire/tallywire/rules/ElementPath$Level;"), (0, .fieldref 7 16), (0, .nameAndType 17 18), (0, u "path"), (0, u "[C"), (0, .fieldref 7 20), (0, .nameAndType 21 22), (0, u "depth"), (0, u "I"), (0, .fieldref 9 24), (0, .nameAndType 25 26), (0, u "children"), (0, u "Lcom/example/tallywire/tallywire/rules/ElementPath$NameCounts;"), (0, .methodref 28 29), (0, .class_ 30), (0, .nameAndType 31 32), (0, u "com/example/tallywire/tallywire/rules/ElementPath$NameCounts"), (0, u "count"), (0, u "(Ljava/lang/String;)I"), (7, .methodref 9 3), (0, .fieldref 9 42), (0, .nameAndType 43 44), (0, u "name"), (0, u "Ljava/lang/String;"), (0, .fieldref 9 46), (0, .nameAndType 47 22), (0, u "index"), (0, .methodref 28 49), (0, .nameAndType 50 6), (0, u "clear"), (0, .fieldref 7 52), (0, .nameAndType 53 22), (0, u "written"), (0, .methodref 55 56), (0, .class_ 57), (0, .nameAndType 58 59), (0, u "java/lang/Math"), (0, u "min"), (0, u "(II)I"), (6, u "(Ljava/lang/String;)V"), (3, u "()I"), (33, u "INITIAL_DEPTH"), (2, u "PATH_CAPACITY"), (1, u "MAX_LEVEL_MARKS"), (3, u "enter"), (1, u "leave")] 9

def k9c0 : Code := { maxStack := 2, maxLocals := 1, code := prog_126_method_1_code, exceptionTable := #[], attributes := #[] }
def k9m0 : Method := { name := "<init>", desc := "()V", sig := { parameters := [], returnType := none }, accessFlags := 1, code := some k9c0 }
def k9c1 : Code := { maxStack := 4, maxLocals := 4, code := prog_126_method_2_code, exceptionTable := #[], attributes := #[] }
def k9m1 : Method := { name := "enter", desc := "(Ljava/lang/String;)V", sig := { parameters := [(.object "java/lang/String")], returnType := none }, accessFlags := 1, code := some k9c1 }
def k9c2 : Code := { maxStack := 3, maxLocals := 1, code := prog_126_method_3_code, exceptionTable := #[], attributes := #[] }
def k9m2 : Method := { name := "leave", desc := "()V", sig := { parameters := [], returnType := none }, accessFlags := 1, code := some k9c2 }
def k9c3 : Code := { maxStack := 3, maxLocals := 1, code := prog_126_method_5_code, exceptionTable := #[], attributes := #[] }
def k9m3 : Method := { name := "index", desc := "()I", sig := { parameters := [], returnType := some .int }, accessFlags := 1, code := some k9c3 }
/-- com/example/tallywire/tallywire/rules/ElementPath -/
def k9 : Class := { plain "com/example/tallywire/tallywire/rules/ElementPath" (some 0) with
  accessFlags := 49
  interfaces := #[]
  cf := some (fileOf pool9 7 #[.nestMembers #[28, 9]] #[{ accessFlags := 1, nameIndex := 5, descriptorIndex := 6, attributes := #[] }, { accessFlags := 1, nameIndex := 113, descriptorIndex := 66, attributes := #[] }, { accessFlags := 1, nameIndex := 115, descriptorIndex := 6, attributes := #[] }, { accessFlags := 1, nameIndex := 47, descriptorIndex := 70, attributes := #[] }] 49 2 #[] #[{ accessFlags := 26, nameIndex := 104, descriptorIndex := 22, attributes := #[] }, { accessFlags := 26, nameIndex := 107, descriptorIndex := 22, attributes := #[] }, { accessFlags := 26, nameIndex := 109, descriptorIndex := 22, attributes := #[] }, { accessFlags := 2, nameIndex := 13, descriptorIndex := 14, attributes := #[] }, { accessFlags := 2, nameIndex := 21, descriptorIndex := 22, attributes := #[] }, { accessFlags := 2, nameIndex := 17, descriptorIndex := 18, attributes := #[] }, { accessFlags := 2, nameIndex := 53, descriptorIndex := 22, attributes := #[] }])
  fields := #[{ name := "INITIAL_DEPTH", type := .int, accessFlags := 26, slot := 0, constantValue := 0 }, { name := "PATH_CAPACITY", type := .int, accessFlags := 26, slot := 1, constantValue := 0 }, { name := "MAX_LEVEL_MARKS", type := .int, accessFlags := 26, slot := 2, constantValue := 0 }, { name := "levels", type := (.array (.object "com/example/tallywire/tallywire/rules/ElementPath$Level")), accessFlags := 2, slot := 0, constantValue := 0 }, { name := "depth", type := .int, accessFlags := 2, slot := 1, constantValue := 0 }, { name := "path", type := (.array .char), accessFlags := 2, slot := 2, constantValue := 0 }, { name := "written", type := .int, accessFlags := 2, slot := 3, constantValue := 0 }]
  methods := #[k9m0, k9m1, k9m2, k9m3]
  instanceTypes := #[(.array (.object "com/example/tallywire/tallywire/rules/ElementPath$Level")), .int, (.array .char), .int]
  staticTypes := #[.int, .int, .int]
  resolved := ⟨List.replicate 9 none ++ [some (Jvm.Resolved.cls 10)] ++ List.replicate 13 none ++ [some (Jvm.Resolved.field 10 3)] ++ List.replicate 16 none ++ [some (Jvm.Resolved.method ⟨10, 0⟩), some (Jvm.Resolved.field 10 0)] ++ List.replicate 3 none ++ [some (Jvm.Resolved.field 10 1)] ++ List.replicate 79 none⟩
  statics := none }

def pool10 : Array CpInfo := pool [(1, .methodref 2 3), (0, .class_ 4), (0, .nameAndType 5 6), (0, u "java/lang/Object"), (0, u "<init>"), (0, u "()V"), (0, .class_ 8), (0, u "com/example/tallywire/tallywire/rules/ElementPath$NameCounts"), (0, .methodref 7 3), (0, .fieldref 11 12), (0, .class_ 13), (0, .nameAndType 14 15), (0, u "com/example/tallywire/tallywire/rules/ElementPath$Level"), (0, u "children"), (0, u "Lcom/example/tallywire/tallywire/rules/ElementPath$NameCounts;"), (0, u "name"), (0, u "Ljava/lang/String;"), (0, u "index"), (0, u "I"), (0, u "end"), (5, .class_ 27), (0, u "com/example/tallywire/tallywire/rules/ElementPath")] 3

def k10c0 : Code := { maxStack := 3, maxLocals := 1, code := prog_127_method_1_code, exceptionTable := #[], attributes := #[] }
def k10m0 : Method := { name := "<init>", desc := "()V", sig := { parameters := [], returnType := none }, accessFlags := 2, code := some k10c0 }
/-- com/example/tallywire/tallywire/rules/ElementPath$Level -/
def k10 : Class := { plain "com/example/tallywire/tallywire/rules/ElementPath$Level" (some 0) with
  accessFlags := 48
  interfaces := #[]
  cf := some (fileOf pool10 11 #[.nestHost 26] #[{ accessFlags := 2, nameIndex := 5, descriptorIndex := 6, attributes := #[] }] 48 2 #[] #[{ accessFlags := 2, nameIndex := 16, descriptorIndex := 17, attributes := #[] }, { accessFlags := 2, nameIndex := 18, descriptorIndex := 19, attributes := #[] }, { accessFlags := 2, nameIndex := 20, descriptorIndex := 19, attributes := #[] }, { accessFlags := 18, nameIndex := 14, descriptorIndex := 15, attributes := #[] }])
  fields := #[{ name := "name", type := (.object "java/lang/String"), accessFlags := 2, slot := 0, constantValue := 0 }, { name := "index", type := .int, accessFlags := 2, slot := 1, constantValue := 0 }, { name := "end", type := .int, accessFlags := 2, slot := 2, constantValue := 0 }, { name := "children", type := (.object "com/example/tallywire/tallywire/rules/ElementPath$NameCounts"), accessFlags := 18, slot := 3, constantValue := 0 }]
  methods := #[k10m0]
  instanceTypes := #[(.object "java/lang/String"), .int, .int, (.object "com/example/tallywire/tallywire/rules/ElementPath$NameCounts")]
  staticTypes := #[]
  resolved := Array.replicate 31 none
  statics := none }

def pool11 : Array CpInfo := pool [(1, .methodref 2 3), (0, .class_ 4), (0, .nameAndType 5 6), (0, u "java/lang/Object"), (0, u "<init>"), (0, u "()V"), (0, .class_ 8), (0, u "com/example/tallywire/tallywire/rules/ElementPath$NameCounts"), (0, .class_ 10), (0, u "java/lang/String"), (0, .fieldref 7 12), (0, .nameAndType 13 14), (0, u "names"), (0, u "[Ljava/lang/String;"), (0, .fieldref 7 16), (0, .nameAndType 17 18), (0, u "counts"), (0, u "[I"), (0, .fieldref 7 20), (0, .nameAndType 21 18), (0, u "used"), (0, .fieldref 7 23), (0, .nameAndType 24 25), (0, u "last"), (0, u "Ljava/lang/String;"), (0, .fieldref 7 27), (0, .nameAndType 28 29), (0, u "lastSlot"), (0, u "I"), (0, .methodref 9 31), (0, .nameAndType 32 33), (0, u "hashCode"), (0, u "()I"), (0, .methodref 7 35), (0, .nameAndType 36 37), (0, u "spread"), (0, u "(I)I"), (0, .methodref 9 39), (0, .nameAndType 40 41), (0, u "equals"), (0, u "(Ljava/lang/Object;)Z"), (0, .fieldref 7 43), (0, .nameAndType 44 29), (0, u "size"), (6, u "(Ljava/lang/String;)I"), (0, u "INITIAL_CAPACITY"), (4, u "count"), (1, u "clear"), (5, .class_ 66), (0, u "com/example/tallywire/tallywire/rules/ElementPath")] 2

def k11c0 : Code := { maxStack := 2, maxLocals := 1, code := prog_128_method_1_code, exceptionTable := #[], attributes := #[] }
def k11m0 : Method := { name := "<init>", desc := "()V", sig := { parameters := [], returnType := none }, accessFlags := 2, code := some k11c0 }
def k11c1 : Code := { maxStack := 5, maxLocals := 5, code := prog_128_method_2_code, exceptionTable := #[], attributes := #[] }
def k11m1 : Method := { name := "count", desc := "(Ljava/lang/String;)I", sig := { parameters := [(.object "java/lang/String")], returnType := some .int }, accessFlags := 0, code := some k11c1 }
def k11c2 : Code := { maxStack := 3, maxLocals := 2, code := prog_128_method_3_code, exceptionTable := #[], attributes := #[] }
def k11m2 : Method := { name := "clear", desc := "()V", sig := { parameters := [], returnType := none }, accessFlags := 0, code := some k11c2 }
def k11c3 : Code := { maxStack := 3, maxLocals := 1, code := prog_128_method_6_code, exceptionTable := #[], attributes := #[] }
def k11m3 : Method := { name := "spread", desc := "(I)I", sig := { parameters := [.int], returnType := some .int }, accessFlags := 10, code := some k11c3 }
/-- com/example/tallywire/tallywire/rules/ElementPath$NameCounts -/
def k11 : Class := { plain "com/example/tallywire/tallywire/rules/ElementPath$NameCounts" (some 0) with
  accessFlags := 48
  interfaces := #[]
  cf := some (fileOf pool11 7 #[.nestHost 65] #[{ accessFlags := 2, nameIndex := 5, descriptorIndex := 6, attributes := #[] }, { accessFlags := 0, nameIndex := 57, descriptorIndex := 51, attributes := #[] }, { accessFlags := 0, nameIndex := 59, descriptorIndex := 6, attributes := #[] }, { accessFlags := 10, nameIndex := 36, descriptorIndex := 37, attributes := #[] }] 48 2 #[] #[{ accessFlags := 26, nameIndex := 52, descriptorIndex := 29, attributes := #[] }, { accessFlags := 2, nameIndex := 13, descriptorIndex := 14, attributes := #[] }, { accessFlags := 2, nameIndex := 17, descriptorIndex := 18, attributes := #[] }, { accessFlags := 2, nameIndex := 21, descriptorIndex := 18, attributes := #[] }, { accessFlags := 2, nameIndex := 44, descriptorIndex := 29, attributes := #[] }, { accessFlags := 2, nameIndex := 24, descriptorIndex := 25, attributes := #[] }, { accessFlags := 2, nameIndex := 28, descriptorIndex := 29, attributes := #[] }])
  fields := #[{ name := "INITIAL_CAPACITY", type := .int, accessFlags := 26, slot := 0, constantValue := 0 }, { name := "names", type := (.array (.object "java/lang/String")), accessFlags := 2, slot := 0, constantValue := 0 }, { name := "counts", type := (.array .int), accessFlags := 2, slot := 1, constantValue := 0 }, { name := "used", type := (.array .int), accessFlags := 2, slot := 2, constantValue := 0 }, { name := "size", type := .int, accessFlags := 2, slot := 3, constantValue := 0 }, { name := "last", type := (.object "java/lang/String"), accessFlags := 2, slot := 4, constantValue := 0 }, { name := "lastSlot", type := .int, accessFlags := 2, slot := 5, constantValue := 0 }]
  methods := #[k11m0, k11m1, k11m2, k11m3]
  instanceTypes := #[(.array (.object "java/lang/String")), (.array .int), (.array .int), .int, (.object "java/lang/String"), .int]
  staticTypes := #[.int]
  resolved := Array.replicate 69 none
  statics := none }

def pool12 : Array CpInfo := pool [(1, .class_ 2), (0, u "java/lang/Math"), (1, .class_ 6), (1, u "java/lang/Object"), (0, u "<init>"), (0, u "()V"), (89, .class_ 100), (1, u "java/lang/Math$RandomNumberGeneratorHolder"), (71, u "negativeZeroFloatBits"), (0, u "J"), (2, u "negativeZeroDoubleBits"), (24, u "min"), (43, u "$assertionsDisabled"), (0, u "Z"), (88, u "(II)I"), (2, u "twoToTheDoubleScaleDown"), (0, u "D"), (4, u "twoToTheDoubleScaleUp"), (9, u "E"), (3, u "PI"), (2, u "TAU"), (2, u "DEGREES_TO_RADIANS"), (0, u "RADIANS_TO_DEGREES")] 94

def k12m0 : Method := { name := "<init>", desc := "()V", sig := { parameters := [], returnType := none }, accessFlags := 2, code := none }
def k12c1 : Code := { maxStack := 2, maxLocals := 2, code := jdk_29_method_69_code, exceptionTable := #[], attributes := #[] }
def k12m1 : Method := { name := "min", desc := "(II)I", sig := { parameters := [.int, .int], returnType := some .int }, accessFlags := 9, code := some k12c1 }
/-- java/lang/Math -/
def k12 : Class := { plain "java/lang/Math" (some 0) with
  accessFlags := 49
  interfaces := #[]
  cf := some (fileOf pool12 1 #[.nestMembers #[98]] #[{ accessFlags := 2, nameIndex := 7, descriptorIndex := 8, attributes := #[] }, { accessFlags := 9, nameIndex := 201, descriptorIndex := 335, attributes := #[] }] 49 4 #[] #[{ accessFlags := 25, nameIndex := 354, descriptorIndex := 339, attributes := #[] }, { accessFlags := 25, nameIndex := 358, descriptorIndex := 339, attributes := #[] }, { accessFlags := 25, nameIndex := 361, descriptorIndex := 339, attributes := #[] }, { accessFlags := 26, nameIndex := 364, descriptorIndex := 339, attributes := #[] }, { accessFlags := 26, nameIndex := 365, descriptorIndex := 339, attributes := #[] }, { accessFlags := 26, nameIndex := 172, descriptorIndex := 173, attributes := #[] }, { accessFlags := 26, nameIndex := 176, descriptorIndex := 173, attributes := #[] }, { accessFlags := 8, nameIndex := 344, descriptorIndex := 339, attributes := #[] }, { accessFlags := 8, nameIndex := 338, descriptorIndex := 339, attributes := #[] }, { accessFlags := 4120, nameIndex := 245, descriptorIndex := 246, attributes := #[] }])
  fields := #[{ name := "E", type := .double, accessFlags := 25, slot := 0, constantValue := 0 }, { name := "PI", type := .double, accessFlags := 25, slot := 1, constantValue := 0 }, { name := "TAU", type := .double, accessFlags := 25, slot := 2, constantValue := 0 }, { name := "DEGREES_TO_RADIANS", type := .double, accessFlags := 26, slot := 3, constantValue := 0 }, { name := "RADIANS_TO_DEGREES", type := .double, accessFlags := 26, slot := 4, constantValue := 0 }, { name := "negativeZeroFloatBits", type := .long, accessFlags := 26, slot := 5, constantValue := 0 }, { name := "negativeZeroDoubleBits", type := .long, accessFlags := 26, slot := 6, constantValue := 0 }, { name := "twoToTheDoubleScaleUp", type := .double, accessFlags := 8, slot := 7, constantValue := 0 }, { name := "twoToTheDoubleScaleDown", type := .double, accessFlags := 8, slot := 8, constantValue := 0 }, { name := "$assertionsDisabled", type := .boolean, accessFlags := 4120, slot := 9, constantValue := 0 }]
  methods := #[k12m0, k12m1]
  instanceTypes := #[]
  staticTypes := #[.double, .double, .double, .double, .double, .long, .long, .double, .double, .boolean]
  resolved := Array.replicate 460 none
  statics := none }

def pool13 : Array CpInfo := pool [(2, .class_ 4), (1, u "java/lang/Object"), (0, u "<init>"), (0, u "()V"), (17, .class_ 26), (1, u "jdk/internal/util/Preconditions"), (28, .class_ 56), (0, u "jdk/internal/util/Preconditions$4"), (57, .class_ 115), (0, u "jdk/internal/util/Preconditions$1"), (7, u "SIOOBE_FORMATTER"), (0, u "Ljava/util/function/BiFunction;"), (0, .class_ 126), (0, u "jdk/internal/util/Preconditions$2"), (3, u "AIOOBE_FORMATTER"), (0, .class_ 132), (0, u "jdk/internal/util/Preconditions$3"), (3, u "IOOBE_FORMATTER")] 57

def k13m0 : Method := { name := "<init>", desc := "()V", sig := { parameters := [], returnType := none }, accessFlags := 1, code := none }
/-- jdk/internal/util/Preconditions -/
def k13 : Class := { plain "jdk/internal/util/Preconditions" (some 0) with
  accessFlags := 33
  interfaces := #[]
  cf := some (fileOf pool13 24 #[.nestMembers #[55, 131, 125, 114]] #[{ accessFlags := 1, nameIndex := 5, descriptorIndex := 6, attributes := #[] }] 33 2 #[] #[{ accessFlags := 25, nameIndex := 123, descriptorIndex := 124, attributes := #[] }, { accessFlags := 25, nameIndex := 130, descriptorIndex := 124, attributes := #[] }, { accessFlags := 25, nameIndex := 136, descriptorIndex := 124, attributes := #[] }])
  fields := #[{ name := "SIOOBE_FORMATTER", type := (.object "java/util/function/BiFunction"), accessFlags := 25, slot := 0, constantValue := 0 }, { name := "AIOOBE_FORMATTER", type := (.object "java/util/function/BiFunction"), accessFlags := 25, slot := 1, constantValue := 0 }, { name := "IOOBE_FORMATTER", type := (.object "java/util/function/BiFunction"), accessFlags := 25, slot := 2, constantValue := 0 }]
  methods := #[k13m0]
  instanceTypes := #[]
  staticTypes := #[(.object "java/util/function/BiFunction"), (.object "java/util/function/BiFunction"), (.object "java/util/function/BiFunction")]
  resolved := Array.replicate 194 none
  statics := some 1 }

def pool14 : Array CpInfo := pool [(9, u "<init>"), (6, .class_ 18), (1, u "java/lang/Object"), (0, u "()V"), (1, .class_ 23), (1, u "jdk/internal/util/ArraysSupport"), (0, u "LOG2_ARRAY_LONG_INDEX_SCALE"), (0, u "I"), (2, u "U"), (0, u "Ljdk/internal/misc/Unsafe;"), (8, u "BIG_ENDIAN"), (0, u "Z"), (8, u "LOG2_BYTE_BIT_SIZE"), (4, u "LOG2_ARRAY_INT_INDEX_SCALE"), (54, u "JLA"), (0, u "Ljdk/internal/access/JavaLangAccess;"), (11, u "LOG2_ARRAY_BOOLEAN_INDEX_SCALE"), (9, u "LOG2_ARRAY_BYTE_INDEX_SCALE"), (5, u "LOG2_ARRAY_CHAR_INDEX_SCALE"), (5, u "LOG2_ARRAY_SHORT_INDEX_SCALE"), (18, u "LOG2_ARRAY_FLOAT_INDEX_SCALE"), (24, u "LOG2_ARRAY_DOUBLE_INDEX_SCALE"), (89, u "T_BOOLEAN"), (2, u "T_CHAR"), (1, u "T_FLOAT"), (1, u "T_DOUBLE"), (1, u "T_BYTE"), (1, u "T_SHORT"), (1, u "T_INT"), (1, u "T_LONG"), (1, u "SOFT_MAX_ARRAY_LENGTH")] 83

def k14m0 : Method := { name := "<init>", desc := "()V", sig := { parameters := [], returnType := none }, accessFlags := 2, code := none }
/-- jdk/internal/util/ArraysSupport -/
def k14 : Class := { plain "jdk/internal/util/ArraysSupport" (some 0) with
  accessFlags := 33
  interfaces := #[]
  cf := some (fileOf pool14 21 #[] #[{ accessFlags := 2, nameIndex := 9, descriptorIndex := 19, attributes := #[] }] 33 16 #[] #[{ accessFlags := 24, nameIndex := 28, descriptorIndex := 29, attributes := #[] }, { accessFlags := 26, nameIndex := 38, descriptorIndex := 39, attributes := #[] }, { accessFlags := 25, nameIndex := 121, descriptorIndex := 25, attributes := #[] }, { accessFlags := 25, nameIndex := 131, descriptorIndex := 25, attributes := #[] }, { accessFlags := 25, nameIndex := 137, descriptorIndex := 25, attributes := #[] }, { accessFlags := 25, nameIndex := 143, descriptorIndex := 25, attributes := #[] }, { accessFlags := 25, nameIndex := 53, descriptorIndex := 25, attributes := #[] }, { accessFlags := 25, nameIndex := 24, descriptorIndex := 25, attributes := #[] }, { accessFlags := 25, nameIndex := 162, descriptorIndex := 25, attributes := #[] }, { accessFlags := 25, nameIndex := 187, descriptorIndex := 25, attributes := #[] }, { accessFlags := 26, nameIndex := 48, descriptorIndex := 25, attributes := #[] }, { accessFlags := 25, nameIndex := 277, descriptorIndex := 25, attributes := #[] }, { accessFlags := 25, nameIndex := 280, descriptorIndex := 25, attributes := #[] }, { accessFlags := 25, nameIndex := 282, descriptorIndex := 25, attributes := #[] }, { accessFlags := 25, nameIndex := 284, descriptorIndex := 25, attributes := #[] }, { accessFlags := 25, nameIndex := 286, descriptorIndex := 25, attributes := #[] }, { accessFlags := 25, nameIndex := 288, descriptorIndex := 25, attributes := #[] }, { accessFlags := 25, nameIndex := 290, descriptorIndex := 25, attributes := #[] }, { accessFlags := 25, nameIndex := 292, descriptorIndex := 25, attributes := #[] }, { accessFlags := 26, nameIndex := 108, descriptorIndex := 109, attributes := #[] }, { accessFlags := 25, nameIndex := 294, descriptorIndex := 25, attributes := #[] }])
  fields := #[{ name := "U", type := (.object "jdk/internal/misc/Unsafe"), accessFlags := 24, slot := 0, constantValue := 0 }, { name := "BIG_ENDIAN", type := .boolean, accessFlags := 26, slot := 1, constantValue := 0 }, { name := "LOG2_ARRAY_BOOLEAN_INDEX_SCALE", type := .int, accessFlags := 25, slot := 2, constantValue := 0 }, { name := "LOG2_ARRAY_BYTE_INDEX_SCALE", type := .int, accessFlags := 25, slot := 3, constantValue := 0 }, { name := "LOG2_ARRAY_CHAR_INDEX_SCALE", type := .int, accessFlags := 25, slot := 4, constantValue := 0 }, { name := "LOG2_ARRAY_SHORT_INDEX_SCALE", type := .int, accessFlags := 25, slot := 5, constantValue := 0 }, { name := "LOG2_ARRAY_INT_INDEX_SCALE", type := .int, accessFlags := 25, slot := 6, constantValue := 0 }, { name := "LOG2_ARRAY_LONG_INDEX_SCALE", type := .int, accessFlags := 25, slot := 7, constantValue := 0 }, { name := "LOG2_ARRAY_FLOAT_INDEX_SCALE", type := .int, accessFlags := 25, slot := 8, constantValue := 0 }, { name := "LOG2_ARRAY_DOUBLE_INDEX_SCALE", type := .int, accessFlags := 25, slot := 9, constantValue := 0 }, { name := "LOG2_BYTE_BIT_SIZE", type := .int, accessFlags := 26, slot := 10, constantValue := 0 }, { name := "T_BOOLEAN", type := .int, accessFlags := 25, slot := 11, constantValue := 0 }, { name := "T_CHAR", type := .int, accessFlags := 25, slot := 12, constantValue := 0 }, { name := "T_FLOAT", type := .int, accessFlags := 25, slot := 13, constantValue := 0 }, { name := "T_DOUBLE", type := .int, accessFlags := 25, slot := 14, constantValue := 0 }, { name := "T_BYTE", type := .int, accessFlags := 25, slot := 15, constantValue := 0 }, { name := "T_SHORT", type := .int, accessFlags := 25, slot := 16, constantValue := 0 }, { name := "T_INT", type := .int, accessFlags := 25, slot := 17, constantValue := 0 }, { name := "T_LONG", type := .int, accessFlags := 25, slot := 18, constantValue := 0 }, { name := "JLA", type := (.object "jdk/internal/access/JavaLangAccess"), accessFlags := 26, slot := 19, constantValue := 0 }, { name := "SOFT_MAX_ARRAY_LENGTH", type := .int, accessFlags := 25, slot := 20, constantValue := 0 }]
  methods := #[k14m0]
  instanceTypes := #[]
  staticTypes := #[(.object "jdk/internal/misc/Unsafe"), .boolean, .int, .int, .int, .int, .int, .int, .int, .int, .int, .int, .int, .int, .int, .int, .int, .int, .int, (.object "jdk/internal/access/JavaLangAccess"), .int]
  resolved := Array.replicate 378 none
  statics := none }

def pool15 : Array CpInfo := pool [(1, u "java/lang/Cloneable"), (0, .class_ 1), (0, u "java/lang/Object"), (0, .class_ 3)] 3

/-- java/lang/Cloneable -/
def k15 : Class := { plain "java/lang/Cloneable" (some 0) with
  accessFlags := 1537
  interfaces := #[]
  cf := some (fileOf pool15 2 #[] #[] 1537 4 #[] #[])
  fields := #[]
  methods := #[]
  instanceTypes := #[]
  staticTypes := #[]
  resolved := Array.replicate 8 none
  statics := none }

/-- the primitive byte -/
def k16 : Class := { plain "byte" none with kind := .primitive 'B', accessFlags := 0x411 }
/-- [B -/
def k17 : Class := { plain "[B" (some 0) with kind := .array 16 .byte, interfaces := #[15, 2], accessFlags := 1041 }

/-- the primitive char -/
def k18 : Class := { plain "char" none with kind := .primitive 'C', accessFlags := 0x411 }
/-- [C -/
def k19 : Class := { plain "[C" (some 0) with kind := .array 18 .char, interfaces := #[15, 2], accessFlags := 1041 }

/-- the primitive int -/
def k20 : Class := { plain "int" none with kind := .primitive 'I', accessFlags := 0x411 }
/-- [I -/
def k21 : Class := { plain "[I" (some 0) with kind := .array 20 .int, interfaces := #[15, 2], accessFlags := 1041 }

/-- [Lcom/example/tallywire/tallywire/rules/ElementPath$Level; -/
def k22 : Class := { plain "[Lcom/example/tallywire/tallywire/rules/ElementPath$Level;" (some 0) with kind := .array 10 (.object "com/example/tallywire/tallywire/rules/ElementPath$Level"), interfaces := #[15, 2], accessFlags := 1041 }

/-- [Ljava/lang/String; -/
def k23 : Class := { plain "[Ljava/lang/String;" (some 0) with kind := .array 7 (.object "java/lang/String"), interfaces := #[15, 2], accessFlags := 1041 }

def heap : Heap := #[{ cls := 7, slots := #[.long 0, .int 1, .null, .int 0, .null, .int 0, .int 0], vm := .statics 7 },
  { cls := 13, slots := #[.null, .null, .null], vm := .statics 13 }]
def classes : Array Class := #[k0, k1, k2, k3, k4, k5, k6, k7, k8, k9, k10, k11, k12, k13, k14, k15, k16, k17, k18, k19, k20, k21, k22, k23]
def interned : List (Array UInt16 × Addr) := []
def slotsUsed : Nat := 10
def theMethod : MethodId := ⟨1, 1⟩
def args0 : Array Value := #[.int 5, .int 5, .int 5, .int 5, .int 5]
def aboutOver (below : List Frame) : State where
  vm := { classes := classes, interned := interned.toArray }
  heap := heap
  slotsUsed := slotsUsed
  threads := #[{ frames := .invoking theMethod args0 :: below }]
def below0 : List Frame := [.native { method := ⟨0, 0⟩, args := #[] }]
def about1 : State := aboutOver below0
def p0 : Program := .bare "" "" ""
def e0 : Env := launch0.env 0 0 0
theorem w_frames : about1.frames = Frame.invoking theMethod args0 :: below0 := rfl
set_option maxRecDepth 65536 in
theorem w_args : argsFit about1.vm theMethod args0 = true := by decide +kernel
set_option maxRecDepth 65536 in
theorem w_heap : heapFits about1 = true := by decide +kernel
set_option maxRecDepth 65536 in
theorem w_runnable : about1.curStatus? = some .runnable := by decide +kernel
set_option maxRecDepth 65536 in
theorem w_alone : about1.alone = true := by decide +kernel
set_option maxRecDepth 65536 in
theorem w_named : about1.methodNamed? x = some theMethod := by decide +kernel
set_option maxRecDepth 65536 in
theorem w_hears : about1.hears theMethod below0 = true := by decide +kernel
set_option maxRecDepth 65536 in
theorem w_ripe : about1.ripe theMethod args0 below0 = true := by decide +kernel
theorem w_running : about1.status = .running := rfl
set_option maxRecDepth 65536 in
theorem w_room : about1.hasRoom e0.platform room_1 = true :=
  launch0.hasRoom_least _ room_1 (by decide +kernel) (by decide +kernel) (by decide +kernel) (by decide +kernel) (by decide +kernel) (by decide +kernel)
theorem allAtoms_all (ts : List Jvm.Cond) (a : Array Jvm.Value) (st : Jvm.State) : (allAtoms ts).before a st = ts.all (fun c => c.before a st) := by
  induction ts with
  | nil => rfl
  | cons c t ih =>
    show (Jvm.Cond.and c (allAtoms t)).before a st = _
    rw [Jvm.Cond.before_and, ih, List.all_cons]
def words1 : List Jvm.Cond := Jvm.Cond.code x code maxLocals ret :: tables_1
/-- a 'code' word, met by the world's own term for the bytes: nothing is compared byte by byte -/
theorem code_word {y : MethodName} {bytes : ByteArray} {mx : Nat} {rt : Option FieldType} {a : Array Value} {s : State} {m : MethodId} {meth : Method} {c : Code} (h1 : s.methodNamed? y = some m) (h2 : s.vm.method? m = some meth) (h3 : meth.code = some c) (h4 : c.code = bytes)
    (h5 : (c.maxLocals == mx && c.exceptionTable.isEmpty && decide (c.maxStack ≤ mostOperands) && decide (meth.sig.returnType = rt) && !meth.locks && decide (parseMethodDescriptor y.desc = some meth.sig)) = true) : (Jvm.Cond.code y bytes mx rt).before a s = true := by
  simp only [Bool.and_eq_true, beq_iff_eq, Bool.not_eq_true', decide_eq_true_eq] at h5
  obtain ⟨⟨⟨⟨⟨g1, g2⟩, g3⟩, g4⟩, g5⟩, g6⟩ := h5
  simp [Cond.before, Cond.holds, Cond.value, h1, h2, h3, h4, g1, g2, g3, g4, g5, g6]
def isCode : Jvm.Cond → Bool
  | .code _ _ _ _ => true
  | _ => false
theorem all_split {L : List Jvm.Cond} {P : Jvm.Cond → Bool} (h1 : L.all (fun c => isCode c || P c) = true) (h2 : ∀ c ∈ L.filter isCode, P c = true) : L.all P = true := by
  refine List.all_eq_true.mpr fun c hc => ?_
  have h := List.all_eq_true.mp h1 c hc
  rcases Bool.eq_false_or_eq_true (isCode c) with hi | hi
  · exact h2 c (List.mem_filter.mpr ⟨hc, hi⟩)
  · simpa [hi] using h
set_option maxRecDepth 65536 in
theorem w_c0 : (Jvm.Cond.code x code maxLocals ret).before args0 about1 = true := code_word (m := ⟨1, 1⟩) (meth := k1m1) (c := k1c1) (by decide +kernel) rfl rfl rfl (by decide +kernel)
set_option maxRecDepth 65536 in
theorem w_c1 : (Jvm.Cond.code ({ cls := "java/lang/String", name := "valueOf", desc := "(C)Ljava/lang/String;" } : Jvm.MethodName) jdk_42_method_139_code (1 : Nat) (Option.some (Jvm.ClassFile.FieldType.object "java/lang/String"))).before args0 about1 = true := code_word (m := ⟨7, 3⟩) (meth := k7m3) (c := k7c3) (by decide +kernel) rfl rfl rfl (by decide +kernel)
set_option maxRecDepth 65536 in
theorem w_c2 : (Jvm.Cond.code ({ cls := "java/lang/StringLatin1", name := "canEncode", desc := "(C)Z" } : Jvm.MethodName) jdk_43_method_3_code (1 : Nat) (Option.some Jvm.ClassFile.FieldType.boolean)).before args0 about1 = true := code_word (m := ⟨8, 1⟩) (meth := k8m1) (c := k8c1) (by decide +kernel) rfl rfl rfl (by decide +kernel)
set_option maxRecDepth 65536 in
theorem w_c3 : (Jvm.Cond.code ({ cls := "java/lang/StringLatin1", name := "toBytes", desc := "(C)[B" } : Jvm.MethodName) jdk_43_method_46_code (1 : Nat) (Option.some (Jvm.ClassFile.FieldType.array Jvm.ClassFile.FieldType.byte))).before args0 about1 = true := code_word (m := ⟨8, 4⟩) (meth := k8m4) (c := k8c4) (by decide +kernel) rfl rfl rfl (by decide +kernel)
set_option maxRecDepth 65536 in
theorem w_c4 : (Jvm.Cond.code ({ cls := "java/lang/String", name := "<init>", desc := "([BB)V" } : Jvm.MethodName) jdk_42_method_151_code (3 : Nat) (Option.none : Option Jvm.ClassFile.FieldType)).before args0 about1 = true := code_word (m := ⟨7, 4⟩) (meth := k7m4) (c := k7c4) (by decide +kernel) rfl rfl rfl (by decide +kernel)
set_option maxRecDepth 65536 in
theorem w_c5 : (Jvm.Cond.code ({ cls := "java/lang/Object", name := "<init>", desc := "()V" } : Jvm.MethodName) object_method_1_code (1 : Nat) (Option.none : Option Jvm.ClassFile.FieldType)).before args0 about1 = true := code_word (m := ⟨0, 0⟩) (meth := k0m0) (c := k0c0) (by decide +kernel) rfl rfl rfl (by decide +kernel)
set_option maxRecDepth 65536 in
theorem w_c6 : (Jvm.Cond.code ({ cls := "com/example/tallywire/tallywire/rules/ElementPath", name := "<init>", desc := "()V" } : Jvm.MethodName) prog_126_method_1_code (1 : Nat) (Option.none : Option Jvm.ClassFile.FieldType)).before args0 about1 = true := code_word (m := ⟨9, 0⟩) (meth := k9m0) (c := k9c0) (by decide +kernel) rfl rfl rfl (by decide +kernel)
set_option maxRecDepth 65536 in
theorem w_c7 : (Jvm.Cond.code ({ cls := "com/example/tallywire/tallywire/rules/ElementPath", name := "enter", desc := "(Ljava/lang/String;)V" } : Jvm.MethodName) prog_126_method_2_code (4 : Nat) (Option.none : Option Jvm.ClassFile.FieldType)).before args0 about1 = true := code_word (m := ⟨9, 1⟩) (meth := k9m1) (c := k9c1) (by decide +kernel) rfl rfl rfl (by decide +kernel)
set_option maxRecDepth 65536 in
theorem w_c8 : (Jvm.Cond.code ({ cls := "com/example/tallywire/tallywire/rules/ElementPath$Level", name := "<init>", desc := "()V" } : Jvm.MethodName) prog_127_method_1_code (1 : Nat) (Option.none : Option Jvm.ClassFile.FieldType)).before args0 about1 = true := code_word (m := ⟨10, 0⟩) (meth := k10m0) (c := k10c0) (by decide +kernel) rfl rfl rfl (by decide +kernel)
set_option maxRecDepth 65536 in
theorem w_c9 : (Jvm.Cond.code ({ cls := "com/example/tallywire/tallywire/rules/ElementPath$NameCounts", name := "<init>", desc := "()V" } : Jvm.MethodName) prog_128_method_1_code (1 : Nat) (Option.none : Option Jvm.ClassFile.FieldType)).before args0 about1 = true := code_word (m := ⟨11, 0⟩) (meth := k11m0) (c := k11c0) (by decide +kernel) rfl rfl rfl (by decide +kernel)
set_option maxRecDepth 65536 in
theorem w_c10 : (Jvm.Cond.code ({ cls := "com/example/tallywire/tallywire/rules/ElementPath$NameCounts", name := "clear", desc := "()V" } : Jvm.MethodName) prog_128_method_3_code (2 : Nat) (Option.none : Option Jvm.ClassFile.FieldType)).before args0 about1 = true := code_word (m := ⟨11, 2⟩) (meth := k11m2) (c := k11c2) (by decide +kernel) rfl rfl rfl (by decide +kernel)
set_option maxRecDepth 65536 in
theorem w_c11 : (Jvm.Cond.code ({ cls := "java/lang/Math", name := "min", desc := "(II)I" } : Jvm.MethodName) jdk_29_method_69_code (2 : Nat) (Option.some Jvm.ClassFile.FieldType.int)).before args0 about1 = true := code_word (m := ⟨12, 1⟩) (meth := k12m1) (c := k12c1) (by decide +kernel) rfl rfl rfl (by decide +kernel)
set_option maxRecDepth 65536 in
theorem w_c12 : (Jvm.Cond.code ({ cls := "com/example/tallywire/tallywire/rules/ElementPath$NameCounts", name := "count", desc := "(Ljava/lang/String;)I" } : Jvm.MethodName) prog_128_method_2_code (5 : Nat) (Option.some Jvm.ClassFile.FieldType.int)).before args0 about1 = true := code_word (m := ⟨11, 1⟩) (meth := k11m1) (c := k11c1) (by decide +kernel) rfl rfl rfl (by decide +kernel)
set_option maxRecDepth 65536 in
theorem w_c13 : (Jvm.Cond.code ({ cls := "java/lang/String", name := "hashCode", desc := "()I" } : Jvm.MethodName) jdk_42_method_78_code (2 : Nat) (Option.some Jvm.ClassFile.FieldType.int)).before args0 about1 = true := code_word (m := ⟨7, 2⟩) (meth := k7m2) (c := k7c2) (by decide +kernel) rfl rfl rfl (by decide +kernel)
set_option maxRecDepth 65536 in
theorem w_c14 : (Jvm.Cond.code ({ cls := "java/lang/String", name := "isLatin1", desc := "()Z" } : Jvm.MethodName) jdk_42_method_154_code (1 : Nat) (Option.some Jvm.ClassFile.FieldType.boolean)).before args0 about1 = true := code_word (m := ⟨7, 5⟩) (meth := k7m5) (c := k7c5) (by decide +kernel) rfl rfl rfl (by decide +kernel)
set_option maxRecDepth 65536 in
theorem w_c15 : (Jvm.Cond.code ({ cls := "java/lang/StringLatin1", name := "hashCode", desc := "([B)I" } : Jvm.MethodName) jdk_43_method_21_code (1 : Nat) (Option.some Jvm.ClassFile.FieldType.int)).before args0 about1 = true := code_word (m := ⟨8, 3⟩) (meth := k8m3) (c := k8c3) (by decide +kernel) rfl rfl rfl (by decide +kernel)
set_option maxRecDepth 65536 in
theorem w_c16 : (Jvm.Cond.code ({ cls := "com/example/tallywire/tallywire/rules/ElementPath$NameCounts", name := "spread", desc := "(I)I" } : Jvm.MethodName) prog_128_method_6_code (1 : Nat) (Option.some Jvm.ClassFile.FieldType.int)).before args0 about1 = true := code_word (m := ⟨11, 3⟩) (meth := k11m3) (c := k11c3) (by decide +kernel) rfl rfl rfl (by decide +kernel)
set_option maxRecDepth 65536 in
theorem w_c17 : (Jvm.Cond.code ({ cls := "com/example/tallywire/tallywire/rules/ElementPath", name := "leave", desc := "()V" } : Jvm.MethodName) prog_126_method_3_code (1 : Nat) (Option.none : Option Jvm.ClassFile.FieldType)).before args0 about1 = true := code_word (m := ⟨9, 2⟩) (meth := k9m2) (c := k9c2) (by decide +kernel) rfl rfl rfl (by decide +kernel)
set_option maxRecDepth 65536 in
theorem w_c18 : (Jvm.Cond.code ({ cls := "java/lang/String", name := "equals", desc := "(Ljava/lang/Object;)Z" } : Jvm.MethodName) jdk_42_method_66_code (3 : Nat) (Option.some Jvm.ClassFile.FieldType.boolean)).before args0 about1 = true := code_word (m := ⟨7, 1⟩) (meth := k7m1) (c := k7c1) (by decide +kernel) rfl rfl rfl (by decide +kernel)
set_option maxRecDepth 65536 in
theorem w_c19 : (Jvm.Cond.code ({ cls := "java/lang/StringLatin1", name := "equals", desc := "([B[B)Z" } : Jvm.MethodName) jdk_43_method_13_code (3 : Nat) (Option.some Jvm.ClassFile.FieldType.boolean)).before args0 about1 = true := code_word (m := ⟨8, 2⟩) (meth := k8m2) (c := k8c2) (by decide +kernel) rfl rfl rfl (by decide +kernel)
set_option maxRecDepth 65536 in
theorem w_c20 : (Jvm.Cond.code ({ cls := "com/example/tallywire/tallywire/rules/ElementPath", name := "index", desc := "()I" } : Jvm.MethodName) prog_126_method_5_code (1 : Nat) (Option.some Jvm.ClassFile.FieldType.int)).before args0 about1 = true := code_word (m := ⟨9, 3⟩) (meth := k9m3) (c := k9c3) (by decide +kernel) rfl rfl rfl (by decide +kernel)
def codes1 : List Jvm.Cond := [Jvm.Cond.code x code maxLocals ret, Jvm.Cond.code ({ cls := "java/lang/String", name := "valueOf", desc := "(C)Ljava/lang/String;" } : Jvm.MethodName) jdk_42_method_139_code (1 : Nat) (Option.some (Jvm.ClassFile.FieldType.object "java/lang/String")), Jvm.Cond.code ({ cls := "java/lang/StringLatin1", name := "canEncode", desc := "(C)Z" } : Jvm.MethodName) jdk_43_method_3_code (1 : Nat) (Option.some Jvm.ClassFile.FieldType.boolean), Jvm.Cond.code ({ cls := "java/lang/StringLatin1", name := "toBytes", desc := "(C)[B" } : Jvm.MethodName) jdk_43_method_46_code (1 : Nat) (Option.some (Jvm.ClassFile.FieldType.array Jvm.ClassFile.FieldType.byte)), Jvm.Cond.code ({ cls := "java/lang/String", name := "<init>", desc := "([BB)V" } : Jvm.MethodName) jdk_42_method_151_code (3 : Nat) (Option.none : Option Jvm.ClassFile.FieldType), Jvm.Cond.code ({ cls := "java/lang/Object", name := "<init>", desc := "()V" } : Jvm.MethodName) object_method_1_code (1 : Nat) (Option.none : Option Jvm.ClassFile.FieldType), Jvm.Cond.code ({ cls := "com/example/tallywire/tallywire/rules/ElementPath", name := "<init>", desc := "()V" } : Jvm.MethodName) prog_126_method_1_code (1 : Nat) (Option.none : Option Jvm.ClassFile.FieldType), Jvm.Cond.code ({ cls := "com/example/tallywire/tallywire/rules/ElementPath", name := "enter", desc := "(Ljava/lang/String;)V" } : Jvm.MethodName) prog_126_method_2_code (4 : Nat) (Option.none : Option Jvm.ClassFile.FieldType), Jvm.Cond.code ({ cls := "com/example/tallywire/tallywire/rules/ElementPath$Level", name := "<init>", desc := "()V" } : Jvm.MethodName) prog_127_method_1_code (1 : Nat) (Option.none : Option Jvm.ClassFile.FieldType), Jvm.Cond.code ({ cls := "com/example/tallywire/tallywire/rules/ElementPath$NameCounts", name := "<init>", desc := "()V" } : Jvm.MethodName) prog_128_method_1_code (1 : Nat) (Option.none : Option Jvm.ClassFile.FieldType), Jvm.Cond.code ({ cls := "com/example/tallywire/tallywire/rules/ElementPath$NameCounts", name := "clear", desc := "()V" } : Jvm.MethodName) prog_128_method_3_code (2 : Nat) (Option.none : Option Jvm.ClassFile.FieldType), Jvm.Cond.code ({ cls := "java/lang/Math", name := "min", desc := "(II)I" } : Jvm.MethodName) jdk_29_method_69_code (2 : Nat) (Option.some Jvm.ClassFile.FieldType.int), Jvm.Cond.code ({ cls := "com/example/tallywire/tallywire/rules/ElementPath$NameCounts", name := "count", desc := "(Ljava/lang/String;)I" } : Jvm.MethodName) prog_128_method_2_code (5 : Nat) (Option.some Jvm.ClassFile.FieldType.int), Jvm.Cond.code ({ cls := "java/lang/String", name := "hashCode", desc := "()I" } : Jvm.MethodName) jdk_42_method_78_code (2 : Nat) (Option.some Jvm.ClassFile.FieldType.int), Jvm.Cond.code ({ cls := "java/lang/String", name := "isLatin1", desc := "()Z" } : Jvm.MethodName) jdk_42_method_154_code (1 : Nat) (Option.some Jvm.ClassFile.FieldType.boolean), Jvm.Cond.code ({ cls := "java/lang/StringLatin1", name := "hashCode", desc := "([B)I" } : Jvm.MethodName) jdk_43_method_21_code (1 : Nat) (Option.some Jvm.ClassFile.FieldType.int), Jvm.Cond.code ({ cls := "com/example/tallywire/tallywire/rules/ElementPath$NameCounts", name := "spread", desc := "(I)I" } : Jvm.MethodName) prog_128_method_6_code (1 : Nat) (Option.some Jvm.ClassFile.FieldType.int), Jvm.Cond.code ({ cls := "com/example/tallywire/tallywire/rules/ElementPath", name := "leave", desc := "()V" } : Jvm.MethodName) prog_126_method_3_code (1 : Nat) (Option.none : Option Jvm.ClassFile.FieldType), Jvm.Cond.code ({ cls := "java/lang/String", name := "equals", desc := "(Ljava/lang/Object;)Z" } : Jvm.MethodName) jdk_42_method_66_code (3 : Nat) (Option.some Jvm.ClassFile.FieldType.boolean), Jvm.Cond.code ({ cls := "java/lang/StringLatin1", name := "equals", desc := "([B[B)Z" } : Jvm.MethodName) jdk_43_method_13_code (3 : Nat) (Option.some Jvm.ClassFile.FieldType.boolean), Jvm.Cond.code ({ cls := "com/example/tallywire/tallywire/rules/ElementPath", name := "index", desc := "()I" } : Jvm.MethodName) prog_126_method_5_code (1 : Nat) (Option.some Jvm.ClassFile.FieldType.int)]
set_option maxRecDepth 65536 in
theorem codes_eq : words1.filter isCode = codes1 := rfl
theorem w_codes : ∀ c ∈ words1.filter isCode, c.before args0 about1 = true := by
  rw [codes_eq]
  intro c hc
  simp only [codes1, List.mem_cons, List.not_mem_nil, or_false] at hc
  rcases hc with rfl | rfl | rfl | rfl | rfl | rfl | rfl | rfl | rfl | rfl | rfl | rfl | rfl | rfl | rfl | rfl | rfl | rfl | rfl | rfl | rfl
  · exact w_c0
  · exact w_c1
  · exact w_c2
  · exact w_c3
  · exact w_c4
  · exact w_c5
  · exact w_c6
  · exact w_c7
  · exact w_c8
  · exact w_c9
  · exact w_c10
  · exact w_c11
  · exact w_c12
  · exact w_c13
  · exact w_c14
  · exact w_c15
  · exact w_c16
  · exact w_c17
  · exact w_c18
  · exact w_c19
  · exact w_c20
set_option maxRecDepth 65536 in
theorem w_t1 : (words1.take 24).all (fun c => isCode c || c.before args0 about1) = true := by decide +kernel
set_option maxRecDepth 65536 in
theorem w_t2 : ((words1.drop 24).take 24).all (fun c => isCode c || c.before args0 about1) = true := by decide +kernel
set_option maxRecDepth 65536 in
theorem w_t3 : (((words1.drop 24).drop 24).take 24).all (fun c => isCode c || c.before args0 about1) = true := by decide +kernel
set_option maxRecDepth 65536 in
theorem w_t4 : ((((words1.drop 24).drop 24).drop 24).take 24).all (fun c => isCode c || c.before args0 about1) = true := by decide +kernel
set_option maxRecDepth 65536 in
theorem w_t5 : (((((words1.drop 24).drop 24).drop 24).drop 24).take 24).all (fun c => isCode c || c.before args0 about1) = true := by decide +kernel
set_option maxRecDepth 65536 in
theorem w_t6 : (((((words1.drop 24).drop 24).drop 24).drop 24).drop 24).all (fun c => isCode c || c.before args0 about1) = true := by decide +kernel
theorem w_tables : (allAtoms (Jvm.Cond.code x code maxLocals ret :: tables_1)).before args0 about1 = true := by
  rw [allAtoms_all]
  show words1.all (fun c => c.before args0 about1) = true
  refine all_split ?_ w_codes
  rw [← List.take_append_drop 24 words1, List.all_append, w_t1, ← List.take_append_drop 24 (words1.drop 24), List.all_append, w_t2, ← List.take_append_drop 24 ((words1.drop 24).drop 24), List.all_append, w_t3, ← List.take_append_drop 24 (((words1.drop 24).drop 24).drop 24), List.all_append, w_t4, ← List.take_append_drop 24 ((((words1.drop 24).drop 24).drop 24).drop 24), List.all_append, w_t5, w_t6]
  rfl
set_option maxRecDepth 65536 in
theorem w_rest : rest_1_c.before args0 about1 = true := by decide +kernel
set_option maxRecDepth 65536 in
theorem w_case : (Jvm.Cond.and given_1 narrow_1).before args0 about1 = true := by decide +kernel
theorem w_applies : (headSpec (Jvm.Cond.code x code maxLocals ret :: tables_1) room_1).applies x e0.platform about1 = true :=
  (Spec.applies_iff w_frames).mpr ⟨w_running, w_runnable, w_alone, w_named, w_hears, w_ripe, w_room, w_tables⟩
theorem atStart : AtStart classFile x code maxLocals ret World_1 tables_1 room_1 Calls_1 rest_1 Pre_1 launch0 p0 e0 about1 theMethod args0 below0 :=
  ⟨lists_1, trivial, launch0.admits_env _ _ _, launch0.least_env, fairChoices_fair.cas, fairChoices_fair.clock, w_frames, w_args, w_heap, w_applies, trivial, w_rest, w_case⟩
end start1
theorem witness_1 : WitnessClaimed_1 := ⟨start1.p0, start1.e0, start1.about1, start1.theMethod, start1.args0, start1.below0, start1.atStart⟩
end Jvm.Pilot.@@N@@
