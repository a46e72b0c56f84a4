import JvmDerived
import JvmDerived.Pilot.@@N@@Statement
import JvmDerived.Pilot.@@N@@Code
set_option linter.unusedVariables false
set_option linter.unusedSimpArgs false
namespace Jvm.RoadKit
open Sem ClassFile Op Lib Jvm.Stand Jvm.Free Jvm.LawKit
section New
variable {p : Program} {l : Launch} {e : Env} {R : Room} {s : State} {m : MethodId} {args : Array Value} {below : List Frame} {meth : Method} {c : Code} {T : State} {locs : List Loc} {cells slots : Nat}
theorem retI (X : Stand p l e R s m args below meth c T locs cells slots) (hx : p.tables.exec = Jvm.exec) {pc : Nat} {Ls : Array Slot} {z : Int32} {rest : List Value} (hret : meth.sig.returnType = some .int) (hd : decode c.code pc = .ok (.ireturn, 1)) {fs : List Frame}
    (hl : ∀ (f : JFrame) (acts : List Action), f.method = m → f.locked = none → f.entered = [] → (doReturn e (T.setTop f) acts (some (.int z))).1 = T.setFrames fs) : Steps p.tables e below (T.setTop (mkF m pc Ls (.int z :: rest))) (T.setFrames fs) := by
  have hm' : T.vm.method? m = some meth := X.method'
  have hn : narrow .int (.int z) = .int z := rfl
  show Steps p.tables e below (T.setTop { method := m, pc := pc, locals := Ls, stack := _ :: rest, locked := none }) _
  jvm_step X.here [X.here.top, hx, hd, hm', hret, hn]
  first | (intro acts; rw [hl _ acts rfl rfl rfl]) | rw [hl _ _ rfl rfl rfl]
  exact Steps.refl _
end New
end Jvm.RoadKit
@@BLOCK:NumsL.lean.txt@@
namespace Jvm.Pilot.@@N@@
open Jvm Jvm.ClassFile Sem Op Lib Jvm.Free Jvm.Stand Jvm.LawKit Jvm.RoadKit Bundle Jvm.Pilot.@@N@@.Jvm.D
def own_End (p : Program) (e : Env) (below : List Frame) (P : Outcome → State → Prop) (S : State) : Prop :=
  ∃ s₂ o, Steps p.tables e below S s₂ ∧ s₂.status = .running ∧ Ended s₂ below o ∧ P o s₂
abbrev own_Met (l : Launch) (Z : State) (y : MethodName) (bytes : ByteArray) (maxL : Nat) (rt : Option FieldType) (ws : List Jvm.Cond) (rm : Room) (as' : Array Value) (h0 : Heap) (Q : Option Value → Heap → List Loc → Prop) : Prop :=
  MetFree l y (head1 (Jvm.Cond.code y bytes maxL rt :: ws) rm) (fun a U => a = as' ∧ Z.Warmed39 U.vm ∧ U.heap = h0) (fun _ _ _ _ _ => True) (fun _ U o U' => ∃ v L, o = .returned v ∧ Q v U'.heap L ∧ FrameEnd U o U' L rm.cells rm.slots)
def own_Ok (Q : Option Value → Heap → List Loc → Prop) (s : State) (kc ks : Nat) (P : Outcome → State → Prop) : Prop := ∀ v U L, Q v U.heap L → FrameEnd s (.returned v) U L kc ks → P (.returned v) U
section Own
variable {p : Program} {l : Launch} {e : Env} {R : Room} {s : State} {m : MethodId} {args : Array Value} {below : List Frame} {meth : Method} {c : Code} {T : State} {locs : List Loc} {cells slots : Nat} {Z : State} {a0 : Array Value} {h : Heap} {P : Outcome → State → Prop}
theorem own_st {S S' : State} (q : ∀ t, Steps p.tables e below S' t → Steps p.tables e below S t) (k : own_End p e below P S') : own_End p e below P S := by
  obtain ⟨a, b, c, d⟩ := k
  exact ⟨a, b, q _ c, d⟩
theorem own_tr {S S' : State} (q : Steps p.tables e below S S') (k : own_End p e below P S') : own_End p e below P S := own_st (fun _ r => q.trans r) k
theorem own_enter {y : MethodName} {bytes : ByteArray} {maxL : Nat} {rt : Option FieldType} {ws : List Jvm.Cond} {rm : Room} {as' : Array Value} {h0 : Heap} {Q : Option Value → Heap → List Loc → Prop} (hpl : plainFor y = true)
    (body : ∀ (p : Program) (e : Env) (s : State) (m : MethodId) (below : List Frame) (meth : Method) (c : Code) (s₁ : State) (P : Outcome → State → Prop), p.tables.exec = Jvm.exec → c.code = bytes → c.maxLocals = maxL → meth.sig.returnType = rt → meth.locks = false → s.vm.findClass y.cls = some m.cls → meth.name = y.name → Z.Warmed39 s.vm →
      Stand p l e rm s m as' below meth c s₁ [] 0 0 → s₁.heap = h0 → own_Ok Q s rm.cells rm.slots P → own_End p e below P (s₁.setTop (entryFrame m as' maxL))) :
    own_Met l Z y bytes maxL rt ws rm as' h0 Q := by
  refine MetFree.of_bodySF hpl hisR ?_
  intro p e s m args below meth c s₁ Bd hml0 hP hK
  obtain ⟨rfl, hZ, hh⟩ := hP
  exact body p e s m below meth c s₁ _ Bd.exec Bd.bytes hml0 Bd.returns Bd.notSynchronized (findClass_of_methodNamed Bd.named) (name_of_methodNamed Bd.named Bd.method).1 hZ (Stand.of_body Bd) (by rw [← hh, Bd.state]; rfl) (fun v U L q f => ⟨v, L, rfl, q, f⟩)
theorem own_cast {g g' : JFrame} (q : g = g') (k : own_End p e below P (T.setTop g')) : own_End p e below P (T.setTop g) := q ▸ k
theorem own_retI (X : Stand p l e R s m args below meth c T locs cells slots) (hx : p.tables.exec = Jvm.exec) (hlk : meth.locks = false) {kc ks : Nat} {Q : Option Value → Heap → List Loc → Prop} (hP : own_Ok Q s kc ks P)
    {pc : Nat} {Ls : Array Slot} {z : Int32} {rest : List Value} (hret : meth.sig.returnType = some .int) (hd : decode c.code pc = .ok (.ireturn, 1)) (h1 : cells ≤ kc) (h2 : slots ≤ ks) (hq : Q (some (.int z)) T.heap locs) : own_End p e below P (T.setTop (mkF m pc Ls (.int z :: rest))) := by
  obtain ⟨fs, hr, hrun, hended, hW, hsame⟩ := X.leave (v := some (.int z)) (fun h => by rw [hret] at h; cases h) hlk
  exact ⟨_, _, retI X hx hret hd hr, hrun, hended, hP _ _ locs hq ⟨⟨_, rfl⟩, hW, hsame.mono h1 h2⟩⟩
theorem own_retN (X : Stand p l e R s m args below meth c T locs cells slots) (hx : p.tables.exec = Jvm.exec) (hlk : meth.locks = false) {kc ks : Nat} {Q : Option Value → Heap → List Loc → Prop} (hP : own_Ok Q s kc ks P)
    {pc : Nat} {Ls : Array Slot} {z : Int32} {t : FieldType} {rest : List Value} (ht : t = .boolean ∨ t = .byte ∨ t = .char ∨ t = .short) (hret : meth.sig.returnType = some t) (hd : decode c.code pc = .ok (.ireturn, 1)) (h1 : cells ≤ kc) (h2 : slots ≤ ks) (hq : Q (some (.int (nar t z))) T.heap locs) : own_End p e below P (T.setTop (mkF m pc Ls (.int z :: rest))) := by
  obtain ⟨fs, hr, hrun, hended, hW, hsame⟩ := X.leave (v := some (.int (nar t z))) (fun h => by rw [hret] at h; cases h) hlk
  exact ⟨_, _, retN X hx hret ht hd hr, hrun, hended, hP _ _ locs hq ⟨⟨_, rfl⟩, hW, hsame.mono h1 h2⟩⟩
theorem own_retL (X : Stand p l e R s m args below meth c T locs cells slots) (hx : p.tables.exec = Jvm.exec) (hlk : meth.locks = false) {kc ks : Nat} {Q : Option Value → Heap → List Loc → Prop} (hP : own_Ok Q s kc ks P)
    {pc : Nat} {Ls : Array Slot} {z : Int64} {rest : List Value} (hret : meth.sig.returnType = some .long) (hd : decode c.code pc = .ok (.lreturn, 1)) (h1 : cells ≤ kc) (h2 : slots ≤ ks) (hq : Q (some (.long z)) T.heap locs) : own_End p e below P (T.setTop (mkF m pc Ls (.long z :: rest))) := by
  obtain ⟨fs, hr, hrun, hended, hW, hsame⟩ := X.leave (v := some (.long z)) (fun h => by rw [hret] at h; cases h) hlk
  exact ⟨_, _, retOut X hx hret rfl (Or.inr (Or.inl ⟨rfl, rfl, z, rfl⟩)) hd hr, hrun, hended, hP _ _ locs hq ⟨⟨_, rfl⟩, hW, hsame.mono h1 h2⟩⟩
theorem own_retR (X : Stand p l e R s m args below meth c T locs cells slots) (hx : p.tables.exec = Jvm.exec) (hlk : meth.locks = false) {kc ks : Nat} {Q : Option Value → Heap → List Loc → Prop} (hP : own_Ok Q s kc ks P)
    {pc : Nat} {Ls : Array Slot} {w : Value} {t : FieldType} {rest : List Value} (hw : w.isRef = true) (ht : t.isReference = true) (hret : meth.sig.returnType = some t) (hd : decode c.code pc = .ok (.areturn, 1)) (h1 : cells ≤ kc) (h2 : slots ≤ ks) (hq : Q (some w) T.heap locs) : own_End p e below P (T.setTop (mkF m pc Ls (w :: rest))) := by
  obtain ⟨fs, hr, hrun, hended, hW, hsame⟩ := X.leave (v := some w) (fun h => by rw [hret] at h; cases h) hlk
  have hn : narrow t w = w := by rcases ref_cases hw with rfl | ⟨a, rfl⟩ <;> cases t <;> rfl
  exact ⟨_, _, retOut X hx hret hn (Or.inr (Or.inr (Or.inr (Or.inr ⟨rfl, ht, hw⟩)))) hd hr, hrun, hended, hP _ _ locs hq ⟨⟨_, rfl⟩, hW, hsame.mono h1 h2⟩⟩
theorem own_retV (X : Stand p l e R s m args below meth c T locs cells slots) (hx : p.tables.exec = Jvm.exec) (hlk : meth.locks = false) {kc ks : Nat} {Q : Option Value → Heap → List Loc → Prop} (hP : own_Ok Q s kc ks P)
    {pc : Nat} {Ls : Array Slot} (hret : meth.sig.returnType = none) (hd : decode c.code pc = .ok (.return_, 1)) (h1 : cells ≤ kc) (h2 : slots ≤ ks) (hq : Q none T.heap locs) : own_End p e below P (T.setTop (mkF m pc Ls [])) := by
  obtain ⟨fs, hr, hrun, hended, hW, hsame⟩ := X.leave (v := none) (fun _ => rfl) hlk
  exact ⟨_, _, X.returnOut hx hret hd hr, hrun, hended, hP _ _ locs hq ⟨⟨_, rfl⟩, hW, hsame.mono h1 h2⟩⟩
theorem own_callS (X : Stand p l e R s m args below meth c T locs cells slots) (hx : p.tables.exec = Jvm.exec) (hZ : Z.Warmed39 s.vm) {own : String} {index : Nat} {y : MethodName} {bytes : ByteArray} {maxL : Nat} {rt : Option FieldType} {rm : Room} {as' : Array Value} {Q : Option Value → Heap → List Loc → Prop}
    (hown : s.vm.findClass own = some m.cls) (w1 : (Jvm.Cond.methodLink own index y).before a0 Z = true) (w2 : (Jvm.Cond.static y).before a0 Z = true) (w3 : (Jvm.Cond.initialized y.cls).before a0 Z = true) (w4 : (Jvm.Cond.code y bytes maxL rt).before a0 Z = true) (hy : y.cls ≠ "java/lang/invoke/MethodHandle" ∧ y.cls ≠ "java/lang/invoke/VarHandle")
    (hM : own_Met l Z y bytes maxL rt [] rm as' h Q) (W : Nat) (hf : rm.frames + 1 ≤ R.frames) (hl : W + (maxL + 11) + rm.locals ≤ R.locals) (eT : T.heap = h) (hc : cells + rm.cells ≤ R.cells) (hs : slots + rm.slots ≤ R.slots)
    {g : JFrame} (hg : g.method = m) (hsize : g.locals.size = c.maxLocals) {argsL rest : List Value} (ha : argsL.toArray = as') (hlen : ∀ sig, parseMethodDescriptor y.desc = some sig → argsL.length = sig.parameters.length) (hstack : g.stack = argsL.reverse ++ rest) (hW : 2 * g.monitorRoom + (rest.map fun v => v.category).sum ≤ W) (hdg : decode c.code g.pc = .ok (.invokestatic index, 3))
    (k : ∀ v T' L, Stand p l e R s m args below meth c T' (locs ++ L) (cells + rm.cells) (slots + rm.slots) → Q v T'.heap L → own_End p e below P (T'.setTop { g with pc := g.pc + 3, stack := v.toList ++ rest })) : own_End p e below P (T.setTop g) := by
  obtain ⟨v, vm₁, ⟨T', L', k', n'⟩, -, X', ⟨L, hQ, h1, h2, h3⟩, st⟩ := Jvm.LawKit.callS X hx hown (mvT hZ w1) (mvT hZ w2) (mvT hZ w3) (mvT hZ w4) hy (backOf (W := W) hM hZ w4 w3 hf hl) hg hsize hlen hstack hW hdg (fun _ _ => ⟨ha, eT, hc, hs⟩)
  dsimp only [Pt.U, Pt.locs, Pt.cells, Pt.slots] at X' h1 h2 h3 st hQ
  subst h1 h2 h3
  exact own_st st (k v T' L X' hQ)
theorem own_callI (X : Stand p l e R s m args below meth c T locs cells slots) (hx : p.tables.exec = Jvm.exec) (hZ : Z.Warmed39 s.vm) {own : String} {index : Nat} {y : MethodName} {bytes : ByteArray} {maxL : Nat} {rm : Room} {as' : Array Value} {Q : Option Value → Heap → List Loc → Prop}
    (hy1 : y.name = "<init>") (hown : s.vm.findClass own = some m.cls) (w1 : (Jvm.Cond.methodLink own index y).before a0 Z = true) (w2 : (Jvm.Cond.instanceMethod y).before a0 Z = true) (w3 : (Jvm.Cond.initialized y.cls).before a0 Z = true) (w4 : (Jvm.Cond.code y bytes maxL none).before a0 Z = true) (hy : y.cls ≠ "java/lang/invoke/MethodHandle" ∧ y.cls ≠ "java/lang/invoke/VarHandle")
    (hM : own_Met l Z y bytes maxL none [] rm as' h Q) (W : Nat) (hf : rm.frames + 1 ≤ R.frames) (hl : W + (maxL + 11) + rm.locals ≤ R.locals) (eT : T.heap = h) (hc : cells + rm.cells ≤ R.cells) (hs : slots + rm.slots ≤ R.slots)
    {g : JFrame} (hg : g.method = m) (hsize : g.locals.size = c.maxLocals) {a : Addr} {argsL rest : List Value} (ha : (Value.ref a :: argsL).toArray = as') (hlen : ∀ sig, parseMethodDescriptor y.desc = some sig → argsL.length = sig.parameters.length) (hstack : g.stack = argsL.reverse ++ .ref a :: rest) (hW : 2 * g.monitorRoom + (rest.map fun v => v.category).sum ≤ W) (hdg : decode c.code g.pc = .ok (.invokespecial index, 3))
    (k : ∀ v T' L, Stand p l e R s m args below meth c T' (locs ++ L) (cells + rm.cells) (slots + rm.slots) → Q v T'.heap L → own_End p e below P (T'.setTop { g with pc := g.pc + 3, stack := v.toList ++ rest })) : own_End p e below P (T.setTop g) := by
  obtain ⟨v, vm₁, ⟨T', L', k', n'⟩, -, X', ⟨L, hQ, h1, h2, h3⟩, st⟩ := X.specialBack hx hy1 hown (mvT hZ w1) (mvT hZ w2) (mvT hZ w4) hy (backOf (W := W) hM hZ w4 w3 hf hl) hg hsize (Steps.refl _) hlen hstack hW hdg (fun _ _ => ⟨ha, eT, hc, hs⟩)
  dsimp only [Pt.U, Pt.locs, Pt.cells, Pt.slots] at X' h1 h2 h3 st hQ
  subst h1 h2 h3
  exact own_tr st (k v T' L X' hQ)
theorem own_callV (X : Stand p l e R s m args below meth c T locs cells slots) (hx : p.tables.exec = Jvm.exec) (hZ : Z.Warmed39 s.vm) {own C : String} {index : Nat} {y z : MethodName} {bytes : ByteArray} {maxL : Nat} {rt : Option FieldType} {rm : Room} {as' : Array Value} {Q : Option Value → Heap → List Loc → Prop}
    (hown : s.vm.findClass own = some m.cls) (w1 : (Jvm.Cond.methodLink own index y).before a0 Z = true) (w2 : (Jvm.Cond.declares y).before a0 Z = true) (hnf : NotFace s y) (w5 : (Jvm.Cond.selects C y z).before a0 Z = true) (w6 : (Jvm.Cond.instanceMethod z).before a0 Z = true) (w3 : (Jvm.Cond.initialized z.cls).before a0 Z = true) (w4 : (Jvm.Cond.code z bytes maxL rt).before a0 Z = true) (hy : y.cls ≠ "java/lang/invoke/MethodHandle" ∧ y.cls ≠ "java/lang/invoke/VarHandle")
    {a : Addr} (E : Exa Z h a C) (hM : own_Met l Z z bytes maxL rt [] rm as' h Q) (W : Nat) (hf : rm.frames + 1 ≤ R.frames) (hl : W + (maxL + 11) + rm.locals ≤ R.locals) (eT : T.heap = h) (hc : cells + rm.cells ≤ R.cells) (hs : slots + rm.slots ≤ R.slots)
    {g : JFrame} (hg : g.method = m) (hsize : g.locals.size = c.maxLocals) {argsL rest : List Value} (ha : (Value.ref a :: argsL).toArray = as') (hlen : ∀ sig, parseMethodDescriptor y.desc = some sig → argsL.length = sig.parameters.length) (hstack : g.stack = argsL.reverse ++ .ref a :: rest) (hW : 2 * g.monitorRoom + (rest.map fun v => v.category).sum ≤ W) (hdg : decode c.code g.pc = .ok (.invokevirtual index, 3))
    (k : ∀ v T' L, Stand p l e R s m args below meth c T' (locs ++ L) (cells + rm.cells) (slots + rm.slots) → Q v T'.heap L → own_End p e below P (T'.setTop { g with pc := g.pc + 3, stack := v.toList ++ rest })) : own_End p e below P (T.setTop g) := by
  obtain ⟨cB, kB, q1, q2, q3⟩ := isOf hZ eT E
  obtain ⟨v, vm₁, ⟨T', L', k', n'⟩, -, X', ⟨L, hQ, h1, h2, h3⟩, st⟩ := X.virtualBack hx (y := y) (z := z) hown (mvT hZ w1) (mvT hZ w2) hnf (mvT hZ w5) (mvT hZ w6) hy (backOf (W := W) hM hZ w4 w3 hf hl) q1 q3 hg hsize (Steps.refl _) hlen hstack hW hdg (fun _ _ => ⟨ha, eT, hc, hs⟩)
  dsimp only [Pt.U, Pt.locs, Pt.cells, Pt.slots] at X' h1 h2 h3 st hQ
  subst h1 h2 h3
  exact own_tr st (k v T' L X' hQ)
theorem own_callU (X : Stand p l e R s m args below meth c T locs cells slots) (hx : p.tables.exec = Jvm.exec) (hZ : Z.Warmed39 s.vm) {own C owner : String} {index : Nat} {x y : MethodName} {bytes : ByteArray} {maxL : Nat} {rt : Option FieldType} {rm : Room} {as' : Array Value} {Q : Option Value → Heap → List Loc → Prop}
    (hown : s.vm.findClass own = some m.cls) (w1 : (Jvm.Cond.methodLink own index x).before a0 Z = true) (w2 : (Jvm.Cond.sameMethod x.cls owner x.name x.desc).before a0 Z = true) (w7 : (Jvm.Cond.declares ⟨owner, x.name, x.desc⟩).before a0 Z = true) (hy : owner ≠ "java/lang/invoke/MethodHandle" ∧ owner ≠ "java/lang/invoke/VarHandle") (w5 : (Jvm.Cond.selects C x y).before a0 Z = true) (w6 : (Jvm.Cond.instanceMethod y).before a0 Z = true) (w3 : (Jvm.Cond.initialized y.cls).before a0 Z = true) (w4 : (Jvm.Cond.code y bytes maxL rt).before a0 Z = true)
    {a : Addr} (E : Exa Z h a C) (hM : own_Met l Z y bytes maxL rt [] rm as' h Q) (W : Nat) (hf : rm.frames + 1 ≤ R.frames) (hl : W + (maxL + 11) + rm.locals ≤ R.locals) (eT : T.heap = h) (hc : cells + rm.cells ≤ R.cells) (hs : slots + rm.slots ≤ R.slots)
    {g : JFrame} (hg : g.method = m) (hsize : g.locals.size = c.maxLocals) {argsL rest : List Value} (ha : (Value.ref a :: argsL).toArray = as') (hlen : ∀ sig, parseMethodDescriptor x.desc = some sig → argsL.length = sig.parameters.length) (hstack : g.stack = argsL.reverse ++ .ref a :: rest) (hW : 2 * g.monitorRoom + (rest.map fun v => v.category).sum ≤ W) (hdg : decode c.code g.pc = .ok (.invokevirtual index, 3))
    (k : ∀ v T' L, Stand p l e R s m args below meth c T' (locs ++ L) (cells + rm.cells) (slots + rm.slots) → Q v T'.heap L → own_End p e below P (T'.setTop { g with pc := g.pc + 3, stack := v.toList ++ rest })) : own_End p e below P (T.setTop g) := by
  obtain ⟨cB, kB, q1, q2, q3⟩ := isOf hZ eT E
  obtain ⟨v, vm₁, ⟨T', L', k', n'⟩, -, X', ⟨L, hQ, h1, h2, h3⟩, st⟩ := X.virtualBackUp hx (x := x) (y := y) hown (mvT hZ w1) (mvT hZ w2) (mvT hZ w7) hy (mvT hZ w5) (mvT hZ w6) (backOf (W := W) hM hZ w4 w3 hf hl) q1 q3 hg hsize (Steps.refl _) hlen hstack hW hdg (fun _ _ => ⟨ha, eT, hc, hs⟩)
  dsimp only [Pt.U, Pt.locs, Pt.cells, Pt.slots] at X' h1 h2 h3 st hQ
  subst h1 h2 h3
  exact own_tr st (k v T' L X' hQ)
theorem own_pop2L (X : Stand p l e R s m args below meth c T locs cells slots) (hx : p.tables.exec = Jvm.exec) {pc : Nat} {Ls : Array Slot} {rest : List Value} {x : Int64} (hd : decode c.code pc = .ok (.pop2, 1)) (k : own_End p e below P (T.setTop (mkF m (pc + 1) Ls rest))) : own_End p e below P (T.setTop (mkF m pc Ls (.long x :: rest))) :=
  own_st (fun _ r => by
    show Steps p.tables e below (T.setTop { method := m, pc := pc, locals := Ls, stack := .long x :: rest, locked := none }) _
    jvm_step X.here [X.here.top, hx, hd, Value.category]
    exact r) k
theorem own_sel {y z : MethodName} (hz : z.cls = y.cls) (hy : y.cls ≠ "java/lang/invoke/MethodHandle" ∧ y.cls ≠ "java/lang/invoke/VarHandle") (w5 : (Jvm.Cond.selects y.cls z z).before args s = true) (wi : (Jvm.Cond.instanceMethod y).before args s = true) (hp : s.PrivateAt y) : (Jvm.Cond.selects y.cls y y).before args s = true := by
  obtain ⟨mk, mm, hn, hm, -, -⟩ := Cond.instanceMethod_spec wi
  obtain ⟨c2, r2, m2, -, -, q3, -, kP, hk, hi⟩ := Cond.selects_spec w5
  have a1 := findClass_of_methodNamed hn
  have a2 := findClass_of_methodNamed q3
  rw [hz] at a2
  have e : m2.cls = mk.cls := Option.some.inj (a2.symm.trans a1)
  rw [e] at hk
  have hs : selectMethod {} s.vm mk.cls mk = .method mk := selectMethod_private hm (hp mk mm hn hm)
  have hf := State.methodFound?_of_named hn hy
  simp [Cond.before, Cond.holds, Cond.value, a1, hf, hn, hs, hk, hi]
theorem own_callP (X : Stand p l e R s m args below meth c T locs cells slots) (hx : p.tables.exec = Jvm.exec) (hZ : Z.Warmed39 s.vm) {own : String} {index : Nat} {y z : MethodName} {bytes : ByteArray} {maxL : Nat} {rt : Option FieldType} {rm : Room} {as' : Array Value} {Q : Option Value → Heap → List Loc → Prop}
    (hown : s.vm.findClass own = some m.cls) (w1 : (Jvm.Cond.methodLink own index y).before a0 Z = true) (w2 : (Jvm.Cond.instanceMethod y).before a0 Z = true) (hz : z.cls = y.cls) (w5 : (Jvm.Cond.selects y.cls z z).before a0 Z = true) (w6 : (Jvm.Cond.privateMethod y).before a0 Z = true) (w3 : (Jvm.Cond.initialized y.cls).before a0 Z = true) (w4 : (Jvm.Cond.code y bytes maxL rt).before a0 Z = true) (hy : y.cls ≠ "java/lang/invoke/MethodHandle" ∧ y.cls ≠ "java/lang/invoke/VarHandle")
    {C : String} {a : Addr} (E : Exa Z h a C) (hM : own_Met l Z y bytes maxL rt [] rm as' h Q) (W : Nat) (hf : rm.frames + 1 ≤ R.frames) (hl : W + (maxL + 11) + rm.locals ≤ R.locals) (eT : T.heap = h) (hc : cells + rm.cells ≤ R.cells) (hs : slots + rm.slots ≤ R.slots)
    {g : JFrame} (hg : g.method = m) (hsize : g.locals.size = c.maxLocals) {argsL rest : List Value} (ha : (Value.ref a :: argsL).toArray = as') (hlen : ∀ sig, parseMethodDescriptor y.desc = some sig → argsL.length = sig.parameters.length) (hstack : g.stack = argsL.reverse ++ .ref a :: rest) (hW : 2 * g.monitorRoom + (rest.map fun v => v.category).sum ≤ W) (hdg : decode c.code g.pc = .ok (.invokevirtual index, 3))
    (k : ∀ v T' L, Stand p l e R s m args below meth c T' (locs ++ L) (cells + rm.cells) (slots + rm.slots) → Q v T'.heap L → own_End p e below P (T'.setTop { g with pc := g.pc + 3, stack := v.toList ++ rest })) : own_End p e below P (T.setTop g) := by
  obtain ⟨cq, q1, q2⟩ := E.cell
  have hp : s.PrivateAt y := Cond.privateMethod_at (mvP hZ w6 (args := args))
  obtain ⟨v, vm₁, ⟨T', L', k', n'⟩, -, X', ⟨L, hQ, h1, h2, h3⟩, st⟩ := X.privateBack hx (y := y) hown (mvT hZ w1) (mvT hZ w2) (own_sel hz hy (mvT hZ w5) (mvT hZ w2) hp) hp (mvT hZ w4) hy (backOf (W := W) hM hZ w4 w3 hf hl) hg hsize (Steps.refl _) (a := a) (by rw [eT]; exact q1) q2 hlen hstack hW hdg (fun _ _ => ⟨ha, eT, hc, hs⟩)
  dsimp only [Pt.U, Pt.locs, Pt.cells, Pt.slots] at X' h1 h2 h3 st hQ
  subst h1 h2 h3
  exact own_tr st (k v T' L X' hQ)
theorem own_tsw (X : Stand p l e R s m args below meth c T locs cells slots) (hx : p.tables.exec = Jvm.exec) {pc len pc' : Nat} {Ls : Array Slot} {rest : List Value} {dflt low high o : Int} {offs : Array Int} {i : Int32} (hd : decode c.code pc = .ok (.tableswitch dflt low high offs, len)) (hin : ¬ (i.toInt < low ∨ i.toInt > high)) (hoff : offs[(i.toInt - low).toNat]? = some o) (ho : 0 ≤ (pc : Int) + o) (hp : ((pc : Int) + o).toNat = pc')
    (k : own_End p e below P (T.setTop (mkF m pc' Ls rest))) : own_End p e below P (T.setTop (mkF m pc Ls (.int i :: rest))) :=
  own_st (fun _ r => XS.tswIn (g := mkF m pc Ls (.int i :: rest)) X.here hx rfl rfl hd rfl hin hoff ho hp r) k
theorem own_lt {x y : Int64} : lcmpW x y < 0 ↔ x < y := by rw [lcW]; exact lc_lt x y
theorem own_gt {x y : Int64} : 0 < lcmpW x y ↔ y < x := by rw [lcW]; exact lc_gt x y
theorem own_eq {x y : Int64} : lcmpW x y = 0 ↔ x = y := by rw [lcW]; exact lc_eq x y
theorem own_eqInt {first : State} {o : Option Outcome} {idx : List Nat} {t : Term} {k : Int32} (q : (Jvm.Cond.eq t (.int k)).value args first o s idx = some true) : t.eval args first o idx s = some (.int k) := by
  obtain ⟨x, y, e1, e2, k1, k2⟩ := cmp_v (Or.inl q)
  rw [Term.int_eval] at e2
  cases e2
  obtain ⟨z, rfl⟩ := k2
  rw [e1, gotT (Cond.eq_ints e1 (Term.int_eval k)) q]
end Own
/-! walks that may load String constants: the end is the wide one -/
def own_OkW (Q : Option Value → Heap → List Loc → Prop) (s : State) (kc ks : Nat) (P : Outcome → State → Prop) : Prop := ∀ v U L, Q v U.heap L → ReturnedEndW s (.returned v) U L kc ks → P (.returned v) U
abbrev own_MetW (l : Launch) (Z : State) (y : MethodName) (bytes : ByteArray) (maxL : Nat) (rt : Option FieldType) (ws : List Jvm.Cond) (rm : Room) (as' : Array Value) (h0 : Heap) (Q : Option Value → Heap → List Loc → Prop) : Prop :=
  MetFree l y (head1 (Jvm.Cond.code y bytes maxL rt :: ws) rm) (fun a U => a = as' ∧ Z.Warmed39 U.vm ∧ U.heap = h0) (fun _ _ _ _ _ => True) (fun _ U o U' => ∃ v L, o = .returned v ∧ Q v U'.heap L ∧ ReturnedEndW U o U' L rm.cells rm.slots)
section OwnW
variable {p : Program} {l : Launch} {e : Env} {R : Room} {s : State} {m : MethodId} {args : Array Value} {below : List Frame} {meth : Method} {c : Code} {T : State} {locs : List Loc} {cells slots : Nat} {Z : State} {a0 : Array Value} {h : Heap} {P : Outcome → State → Prop} {vm0 : Vm} {k0 : Nat}
theorem own_enterW {y : MethodName} {bytes : ByteArray} {maxL : Nat} {rt : Option FieldType} {ws : List Jvm.Cond} {rm : Room} {as' : Array Value} {h0 : Heap} {Q : Option Value → Heap → List Loc → Prop} (hpl : plainFor y = true)
    (body : ∀ (p : Program) (e : Env) (s : State) (m : MethodId) (below : List Frame) (meth : Method) (c : Code) (s₁ : State) (P : Outcome → State → Prop) (vm0 : Vm) (k0 : Nat), p.tables.exec = Jvm.exec → c.code = bytes → c.maxLocals = maxL → meth.sig.returnType = rt → meth.locks = false → (s.setVm vm0).vm.findClass y.cls = some m.cls → meth.name = y.name → Z.Warmed39 (s.setVm vm0).vm →
      Stand p l e rm (s.setVm vm0) m as' below meth c s₁ [] 0 0 → s₁.heap = h0 → s.Since vm0 k0 → k0 ≤ h0.size → own_OkW Q s rm.cells rm.slots P → own_End p e below P (s₁.setTop (entryFrame m as' maxL))) :
    own_MetW l Z y bytes maxL rt ws rm as' h0 Q := by
  refine MetFree.of_bodySF hpl hisR ?_
  intro p e s m args below meth c s₁ Bd hml0 hP hK
  obtain ⟨rfl, hZ, hh⟩ := hP
  exact body p e s m below meth c s₁ _ s.vm s.heap.size Bd.exec Bd.bytes hml0 Bd.returns Bd.notSynchronized (findClass_of_methodNamed Bd.named) (name_of_methodNamed Bd.named Bd.method).1 hZ (Stand.of_body Bd) (by rw [← hh, Bd.state]; rfl) ((State.WarmedH.refl s).since _) (by rw [hh]; exact Nat.le_refl _) (fun v U L q f => ⟨v, L, rfl, q, f⟩)
theorem own_monoW {U : State} {o : Outcome} {L : List Loc} {k n k' n' : Nat} (q : ReturnedEndW s o U L k n) (h1 : k ≤ k') (h2 : n ≤ n') : ReturnedEndW s o U L k' n' := ⟨q.1, q.2.1, q.2.2.1, q.2.2.2.mono h1 h2⟩
theorem own_retVW (X : Stand p l e R (s.setVm vm0) m args below meth c T locs cells slots) (hS : s.Since vm0 k0) (hk : k0 ≤ h.size) (eT : T.heap = h) (hx : p.tables.exec = Jvm.exec) (hlk : meth.locks = false) {kc ks : Nat} {Q : Option Value → Heap → List Loc → Prop} (hP : own_OkW Q s kc ks P)
    {pc : Nat} {Ls : Array Slot} (hret : meth.sig.returnType = none) (hd : decode c.code pc = .ok (.return_, 1)) (h1 : cells ≤ kc) (h2 : slots ≤ ks) (hq : Q none T.heap locs) : own_End p e below P (T.setTop (mkF m pc Ls [])) := by
  obtain ⟨fs, hr, hrun, hended, hW⟩ := X.leaveW hS (by rw [eT]; exact hk) (v := none) (fun _ => rfl) hlk
  exact ⟨_, _, X.returnOut hx hret hd hr, hrun, hended, hP _ _ locs hq (own_monoW hW h1 h2)⟩
theorem own_retNW (X : Stand p l e R (s.setVm vm0) m args below meth c T locs cells slots) (hS : s.Since vm0 k0) (hk : k0 ≤ h.size) (eT : T.heap = h) (hx : p.tables.exec = Jvm.exec) (hlk : meth.locks = false) {kc ks : Nat} {Q : Option Value → Heap → List Loc → Prop} (hP : own_OkW Q s kc ks P)
    {pc : Nat} {Ls : Array Slot} {z : Int32} {t : FieldType} {rest : List Value} (ht : t = .boolean ∨ t = .byte ∨ t = .char ∨ t = .short) (hret : meth.sig.returnType = some t) (hd : decode c.code pc = .ok (.ireturn, 1)) (h1 : cells ≤ kc) (h2 : slots ≤ ks) (hq : Q (some (.int (nar t z))) T.heap locs) : own_End p e below P (T.setTop (mkF m pc Ls (.int z :: rest))) := by
  obtain ⟨fs, hr, hrun, hended, hW⟩ := X.leaveW hS (by rw [eT]; exact hk) (v := some (.int (nar t z))) (fun h => by rw [hret] at h; cases h) hlk
  exact ⟨_, _, retN X hx hret ht hd hr, hrun, hended, hP _ _ locs hq (own_monoW hW h1 h2)⟩
theorem own_retIW (X : Stand p l e R (s.setVm vm0) m args below meth c T locs cells slots) (hS : s.Since vm0 k0) (hk : k0 ≤ h.size) (eT : T.heap = h) (hx : p.tables.exec = Jvm.exec) (hlk : meth.locks = false) {kc ks : Nat} {Q : Option Value → Heap → List Loc → Prop} (hP : own_OkW Q s kc ks P)
    {pc : Nat} {Ls : Array Slot} {z : Int32} {rest : List Value} (hret : meth.sig.returnType = some .int) (hd : decode c.code pc = .ok (.ireturn, 1)) (h1 : cells ≤ kc) (h2 : slots ≤ ks) (hq : Q (some (.int z)) T.heap locs) : own_End p e below P (T.setTop (mkF m pc Ls (.int z :: rest))) := by
  obtain ⟨fs, hr, hrun, hended, hW⟩ := X.leaveW hS (by rw [eT]; exact hk) (v := some (.int z)) (fun h => by rw [hret] at h; cases h) hlk
  exact ⟨_, _, retI X hx hret hd hr, hrun, hended, hP _ _ locs hq (own_monoW hW h1 h2)⟩
theorem own_retRW (X : Stand p l e R (s.setVm vm0) m args below meth c T locs cells slots) (hS : s.Since vm0 k0) (hk : k0 ≤ h.size) (eT : T.heap = h) (hx : p.tables.exec = Jvm.exec) (hlk : meth.locks = false) {kc ks : Nat} {Q : Option Value → Heap → List Loc → Prop} (hP : own_OkW Q s kc ks P)
    {pc : Nat} {Ls : Array Slot} {w : Value} {t : FieldType} {rest : List Value} (hw : w.isRef = true) (ht : t.isReference = true) (hret : meth.sig.returnType = some t) (hd : decode c.code pc = .ok (.areturn, 1)) (h1 : cells ≤ kc) (h2 : slots ≤ ks) (hq : Q (some w) T.heap locs) : own_End p e below P (T.setTop (mkF m pc Ls (w :: rest))) := by
  obtain ⟨fs, hr, hrun, hended, hW⟩ := X.leaveW hS (by rw [eT]; exact hk) (v := some w) (fun h => by rw [hret] at h; cases h) hlk
  have hn : narrow t w = w := by rcases ref_cases hw with rfl | ⟨a, rfl⟩ <;> cases t <;> rfl
  exact ⟨_, _, retOut X hx hret hn (Or.inr (Or.inr (Or.inr (Or.inr ⟨rfl, ht, hw⟩)))) hd hr, hrun, hended, hP _ _ locs hq (own_monoW hW h1 h2)⟩
theorem own_callIW (X : Stand p l e R (s.setVm vm0) m args below meth c T locs cells slots) (hS : s.Since vm0 k0) (hk : k0 ≤ h.size) (hx : p.tables.exec = Jvm.exec) (hZ : Z.Warmed39 (s.setVm vm0).vm) {own : String} {index : Nat} {y : MethodName} {bytes : ByteArray} {maxL : Nat} {rm : Room} {as' : Array Value} {Q : Option Value → Heap → List Loc → Prop}
    (hy1 : y.name = "<init>") (hown : (s.setVm vm0).vm.findClass own = some m.cls) (w1 : (Jvm.Cond.methodLink own index y).before a0 Z = true) (w2 : (Jvm.Cond.instanceMethod y).before a0 Z = true) (w3 : (Jvm.Cond.initialized y.cls).before a0 Z = true) (w4 : (Jvm.Cond.code y bytes maxL none).before a0 Z = true) (hy : y.cls ≠ "java/lang/invoke/MethodHandle" ∧ y.cls ≠ "java/lang/invoke/VarHandle")
    (hM : own_MetW l Z y bytes maxL none [] rm as' h Q) (W : Nat) (hf : rm.frames + 1 ≤ R.frames) (hl : W + (maxL + 11) + rm.locals ≤ R.locals) (eT : T.heap = h) (hc : cells + rm.cells ≤ R.cells) (hs : slots + rm.slots ≤ R.slots)
    {g : JFrame} (hg : g.method = m) (hsize : g.locals.size = c.maxLocals) {a : Addr} {argsL rest : List Value} (ha : (Value.ref a :: argsL).toArray = as') (hlen : ∀ sig, parseMethodDescriptor y.desc = some sig → argsL.length = sig.parameters.length) (hstack : g.stack = argsL.reverse ++ .ref a :: rest) (hW : 2 * g.monitorRoom + (rest.map fun v => v.category).sum ≤ W) (hdg : decode c.code g.pc = .ok (.invokespecial index, 3))
    (k : ∀ v T' L, Stand p l e R (s.setVm T'.vm) m args below meth c T' (locs ++ L) (cells + rm.cells) (slots + rm.slots) → Q v T'.heap L → s.Since T'.vm T'.heap.size → Z.Warmed39 (s.setVm T'.vm).vm → (s.setVm T'.vm).vm.findClass own = some m.cls → own_End p e below P (T'.setTop { g with pc := g.pc + 3, stack := v.toList ++ rest })) : own_End p e below P (T.setTop g) := by
  obtain ⟨v, vm₁, ⟨T', L', k', n'⟩, -, X', hS', hg', ⟨L, hQ, h1, h2, h3⟩, st⟩ := X.specialBackS hx hy1 hown (mvT hZ w1) (mvT hZ w2) (mvT hZ w4) hy (backOfS (W := W) hM hZ w4 w3 hf hl) hg hsize (Steps.refl _) hlen hstack hW hdg (fun _ _ => ⟨ha, eT, hc, hs⟩)
  dsimp only [Pt.U, Pt.locs, Pt.cells, Pt.slots] at X' h1 h2 h3 st hQ hS' hg'
  subst h1 h2 h3
  obtain ⟨q1, q2, q3, q4⟩ := rebS hS (by rw [← eT] at hk; exact hk) X' hS' hg' hZ hown
  exact own_tr st (k v T' L q1 hQ q2 q3 q4)
theorem own_callSW (X : Stand p l e R (s.setVm vm0) m args below meth c T locs cells slots) (hS : s.Since vm0 k0) (hk : k0 ≤ h.size) (hx : p.tables.exec = Jvm.exec) (hZ : Z.Warmed39 (s.setVm vm0).vm) {own : String} {index : Nat} {y : MethodName} {bytes : ByteArray} {maxL : Nat} {rt : Option FieldType} {rm : Room} {as' : Array Value} {Q : Option Value → Heap → List Loc → Prop}
    (hown : (s.setVm vm0).vm.findClass own = some m.cls) (w1 : (Jvm.Cond.methodLink own index y).before a0 Z = true) (w2 : (Jvm.Cond.static y).before a0 Z = true) (w3 : (Jvm.Cond.initialized y.cls).before a0 Z = true) (w4 : (Jvm.Cond.code y bytes maxL rt).before a0 Z = true) (hy : y.cls ≠ "java/lang/invoke/MethodHandle" ∧ y.cls ≠ "java/lang/invoke/VarHandle")
    (hM : own_MetW l Z y bytes maxL rt [] rm as' h Q) (W : Nat) (hf : rm.frames + 1 ≤ R.frames) (hl : W + (maxL + 11) + rm.locals ≤ R.locals) (eT : T.heap = h) (hc : cells + rm.cells ≤ R.cells) (hs : slots + rm.slots ≤ R.slots)
    {g : JFrame} (hg : g.method = m) (hsize : g.locals.size = c.maxLocals) {argsL rest : List Value} (ha : argsL.toArray = as') (hlen : ∀ sig, parseMethodDescriptor y.desc = some sig → argsL.length = sig.parameters.length) (hstack : g.stack = argsL.reverse ++ rest) (hW : 2 * g.monitorRoom + (rest.map fun v => v.category).sum ≤ W) (hdg : decode c.code g.pc = .ok (.invokestatic index, 3))
    (k : ∀ v T' L, Stand p l e R (s.setVm T'.vm) m args below meth c T' (locs ++ L) (cells + rm.cells) (slots + rm.slots) → Q v T'.heap L → s.Since T'.vm T'.heap.size → Z.Warmed39 (s.setVm T'.vm).vm → (s.setVm T'.vm).vm.findClass own = some m.cls → own_End p e below P (T'.setTop { g with pc := g.pc + 3, stack := v.toList ++ rest })) : own_End p e below P (T.setTop g) := by
  obtain ⟨v, vm₁, ⟨T', L', k', n'⟩, -, X', hS', hg', ⟨L, hQ, h1, h2, h3⟩, st⟩ := callSS X hx hown (mvT hZ w1) (mvT hZ w2) (mvT hZ w3) (mvT hZ w4) hy (backOfS (W := W) hM hZ w4 w3 hf hl) hg hsize hlen hstack hW hdg (fun _ _ => ⟨ha, eT, hc, hs⟩)
  dsimp only [Pt.U, Pt.locs, Pt.cells, Pt.slots] at X' h1 h2 h3 st hQ hS' hg'
  subst h1 h2 h3
  obtain ⟨q1, q2, q3, q4⟩ := rebS hS (by rw [← eT] at hk; exact hk) X' hS' hg' hZ hown
  exact own_tr st (k v T' L q1 hQ q2 q3 q4)
end OwnW
theorem own_wS {Z : State} {a0 : Array Value} (hw : ∀ d ∈ tables_1, d.before a0 Z = true) : ∀ a ∈ Bundle.stringAtoms, a.before a0 Z = true := by
  intro d hd
  simp only [Bundle.stringAtoms, List.mem_cons, List.not_mem_nil, or_false] at hd
  rcases hd with rfl | rfl | rfl | rfl | rfl | rfl | rfl
  · exact (hw _ (List.mem_of_getElem? (i := 22) rfl))
  · exact (hw _ (List.mem_of_getElem? (i := 23) rfl))
  · exact (hw _ (List.mem_of_getElem? (i := 24) rfl))
  · exact (hw _ (List.mem_of_getElem? (i := 25) rfl))
  · exact (hw _ (List.mem_of_getElem? (i := 26) rfl))
  · exact (hw _ (List.mem_of_getElem? (i := 27) rfl))
  · exact (hw _ (List.mem_of_getElem? (i := 28) rfl))
theorem own_dsys_0 : decode jdk_2322_method_1_code 0 = .ok (.getstatic 1, 3) := by decide +kernel
theorem own_dsys_3 : decode jdk_2322_method_1_code 3 = .ok (.areturn, 1) := by decide +kernel
theorem own_efsys (m : MethodId)  : entryFrame m #[] 0 = mkF m 0 #[] [] := by first | (simp [entryFrame, mkF, argsToLocals, Value.category]; done) | rfl
theorem own_pn_java_time_InstantSource : plainName "java/time/InstantSource" = true := by first | (simp [plainName, overriddenIn]; done) | decide +kernel
set_option maxRecDepth 65536 in
set_option maxHeartbeats 40000000 in
theorem own_msys (l : Launch) (Z : State) (a0 : Array Value) (hw : ∀ d ∈ tables_1, d.before a0 Z = true) (ws : List Jvm.Cond)  (s_Clock_SystemInstantSource_INSTANCE : Addr) (h0 : Heap) (n0 : Nat) (Z0 : n0 ≤ h0.size) (S_Clock_SystemInstantSource_INSTANCE : Sta Z h0 "java/time/Clock$SystemInstantSource" "INSTANCE" "Ljava/time/Clock$SystemInstantSource;" (.ref s_Clock_SystemInstantSource_INSTANCE)) :
    own_Met l Z (⟨"java/time/InstantSource", "system", "()Ljava/time/InstantSource;"⟩ : MethodName) jdk_2322_method_1_code 0 (some (.object "java/time/InstantSource")) ws ({ frames := 0, cells := 0, slots := 0, locals := 0 } : Room) #[] h0 (fun (v : Option Value) (h : Heap) (L : List Loc) => v = some (.ref s_Clock_SystemInstantSource_INSTANCE) ∧ Fr n0 L ∧ h = h0) := by
  refine own_enter (plainFor_of_name own_pn_java_time_InstantSource) ?_
  intro p e s m below meth c s₁ P hx hby hml hrt hlk hown hnm hZ X0 e0 hP
  have N0 := Fr.nil n0
  have K0 := Keep.refl h0 []
  have hml' : c.maxLocals = 0 := hml
  refine own_cast (own_efsys m ) ?_
  show own_End p e below P (s₁.setTop (mkF m 0 #[] []))
  obtain ⟨T1, X1, e1, st1⟩ := getS2 X0 hx hZ hown (host := "") (Or.inl (hw _ (List.mem_of_getElem? (i := 13) rfl))) Via.refl e0 S_Clock_SystemInstantSource_INSTANCE (g := (mkF m 0 #[] [])) rfl (hb hby own_dsys_0)
  refine own_st (fun _ => st1 _) ?_
  show own_End p e below P (T1.setTop (mkF m 3 #[] [(.ref s_Clock_SystemInstantSource_INSTANCE)]))
  exact own_retR X1 hx hlk hP rfl rfl hrt (hb hby own_dsys_3) (by decide) (by decide) ⟨rfl, N0, e1⟩
theorem own_dspan_0 : decode prog_8_method_4_code 0 = .ok (.lload_n 1, 1) := by decide +kernel
theorem own_dspan_1 : decode prog_8_method_4_code 1 = .ok (.lload_n 3, 1) := by decide +kernel
theorem own_dspan_2 : decode prog_8_method_4_code 2 = .ok (.lcmp, 1) := by decide +kernel
theorem own_dspan_3 : decode prog_8_method_4_code 3 = .ok (.ifCond .lt 11, 3) := by decide +kernel
theorem own_dspan_6 : decode prog_8_method_4_code 6 = .ok (.lload_n 1, 1) := by decide +kernel
theorem own_dspan_7 : decode prog_8_method_4_code 7 = .ok (.ldc2_w 52, 3) := by decide +kernel
theorem own_dspan_10 : decode prog_8_method_4_code 10 = .ok (.lcmp, 1) := by decide +kernel
theorem own_dspan_11 : decode prog_8_method_4_code 11 = .ok (.ifCond .le 19, 3) := by decide +kernel
theorem own_dspan_30 : decode prog_8_method_4_code 30 = .ok (.lload_n 1, 1) := by decide +kernel
theorem own_dspan_31 : decode prog_8_method_4_code 31 = .ok (.lreturn, 1) := by decide +kernel
theorem own_efspan (m : MethodId) (o0 : Addr) (q1 : Int64) (q2 : Int64) : entryFrame m #[(.ref o0), (.long q1), (.long q2)] 5 = mkF m 0 #[.val (.ref o0), .val (.long q1), .second, .val (.long q2), .second] [] := by first | (simp [entryFrame, mkF, argsToLocals, Value.category]; done) | rfl
theorem own_pn_com_example_fenliu_fenliu_EpochMillis : plainName "com/example/fenliu/fenliu/EpochMillis" = true := by first | (simp [plainName, overriddenIn]; done) | decide +kernel
set_option maxRecDepth 65536 in
set_option maxHeartbeats 40000000 in
theorem own_mspan (l : Launch) (Z : State) (a0 : Array Value) (hw : ∀ d ∈ tables_1, d.before a0 Z = true) (ws : List Jvm.Cond) (o0 : Addr) (q1 : Int64) (q2 : Int64)  (h0 : Heap) (n0 : Nat) (Z0 : n0 ≤ h0.size) (h1 : ¬ (q1 < q2)) (h2 : ¬ ((2147483647 : Int64) < q1)) :
    own_Met l Z (⟨"com/example/fenliu/fenliu/EpochMillis", "checkedSpan", "(Ljava/lang/String;JJ)J"⟩ : MethodName) prog_8_method_4_code 5 (some .long) ws ({ frames := 0, cells := 0, slots := 0, locals := 0 } : Room) #[(.ref o0), (.long q1), (.long q2)] h0 (fun (v : Option Value) (h : Heap) (L : List Loc) => v = some (.long q1) ∧ Fr n0 L ∧ h = h0) := by
  refine own_enter (plainFor_of_name own_pn_com_example_fenliu_fenliu_EpochMillis) ?_
  intro p e s m below meth c s₁ P hx hby hml hrt hlk hown hnm hZ X0 e0 hP
  have N0 := Fr.nil n0
  have K0 := Keep.refl h0 []
  have hml' : c.maxLocals = 5 := hml
  refine own_cast (own_efspan m o0 q1 q2) ?_
  show own_End p e below P (s₁.setTop (mkF m 0 #[.val (.ref o0), .val (.long q1), .second, .val (.long q2), .second] []))
  refine own_st (fun _ => XS.lloadN X0.here hx rfl (hb hby own_dspan_0) rfl) ?_
  show own_End p e below P (s₁.setTop (mkF m 1 #[.val (.ref o0), .val (.long q1), .second, .val (.long q2), .second] [(.long q1)]))
  refine own_st (fun _ => XS.lloadN X0.here hx rfl (hb hby own_dspan_1) rfl) ?_
  show own_End p e below P (s₁.setTop (mkF m 2 #[.val (.ref o0), .val (.long q1), .second, .val (.long q2), .second] [(.long q2), (.long q1)]))
  refine own_st (fun _ => XS.lcmp X0.here hx rfl (hb hby own_dspan_2) rfl) ?_
  show own_End p e below P (s₁.setTop (mkF m 3 #[.val (.ref o0), .val (.long q1), .second, .val (.long q2), .second] [(.int (lcmpW q1 q2))]))
  refine own_st (fun _ => XS.ifNo X0.here hx rfl (hb hby own_dspan_3) rfl ((if0 _ _).trans (flt (mt own_lt.mp h1)).1)) ?_
  show own_End p e below P (s₁.setTop (mkF m 6 #[.val (.ref o0), .val (.long q1), .second, .val (.long q2), .second] []))
  refine own_st (fun _ => XS.lloadN X0.here hx rfl (hb hby own_dspan_6) rfl) ?_
  show own_End p e below P (s₁.setTop (mkF m 7 #[.val (.ref o0), .val (.long q1), .second, .val (.long q2), .second] [(.long q1)]))
  refine own_st (fun _ => X0.ldc2Long hx hown (mvT hZ (hw _ (List.mem_of_getElem? (i := 33) rfl))) (g := (mkF m 7 #[.val (.ref o0), .val (.long q1), .second, .val (.long q2), .second] [(.long q1)])) rfl (hb hby own_dspan_7) _) ?_
  show own_End p e below P (s₁.setTop (mkF m 10 #[.val (.ref o0), .val (.long q1), .second, .val (.long q2), .second] [(.long (2147483647 : Int64)), (.long q1)]))
  refine own_st (fun _ => XS.lcmp X0.here hx rfl (hb hby own_dspan_10) rfl) ?_
  show own_End p e below P (s₁.setTop (mkF m 11 #[.val (.ref o0), .val (.long q1), .second, .val (.long q2), .second] [(.int (lcmpW q1 (2147483647 : Int64)))]))
  refine own_st (fun _ => XS.ifYes X0.here hx rfl (pc0 := 11) (pc' := 30) rfl (hb hby own_dspan_11) rfl ((if0 _ _).trans (flt (mt own_gt.mp h2)).2.2.2) (by decide) (by decide)) ?_
  show own_End p e below P (s₁.setTop (mkF m 30 #[.val (.ref o0), .val (.long q1), .second, .val (.long q2), .second] []))
  refine own_st (fun _ => XS.lloadN X0.here hx rfl (hb hby own_dspan_30) rfl) ?_
  show own_End p e below P (s₁.setTop (mkF m 31 #[.val (.ref o0), .val (.long q1), .second, .val (.long q2), .second] [(.long q1)]))
  exact own_retL X0 hx hlk hP hrt (hb hby own_dspan_31) (by decide) (by decide) ⟨rfl, N0, e0⟩
theorem own_dmax_0 : decode jdk_29_method_66_code 0 = .ok (.lload_n 0, 1) := by decide +kernel
theorem own_dmax_1 : decode jdk_29_method_66_code 1 = .ok (.lload_n 2, 1) := by decide +kernel
theorem own_dmax_2 : decode jdk_29_method_66_code 2 = .ok (.lcmp, 1) := by decide +kernel
theorem own_dmax_3 : decode jdk_29_method_66_code 3 = .ok (.ifCond .lt 7, 3) := by decide +kernel
theorem own_dmax_10 : decode jdk_29_method_66_code 10 = .ok (.lload_n 2, 1) := by decide +kernel
theorem own_dmax_11 : decode jdk_29_method_66_code 11 = .ok (.lreturn, 1) := by decide +kernel
theorem own_dmax_6 : decode jdk_29_method_66_code 6 = .ok (.lload_n 0, 1) := by decide +kernel
theorem own_dmax_7 : decode jdk_29_method_66_code 7 = .ok (.goto 4, 3) := by decide +kernel
theorem own_efmax (m : MethodId) (q0 : Int64) (q1 : Int64) : entryFrame m #[(.long q0), (.long q1)] 4 = mkF m 0 #[.val (.long q0), .second, .val (.long q1), .second] [] := by first | (simp [entryFrame, mkF, argsToLocals, Value.category]; done) | rfl
def own_fmax (q0 : Int64) (q1 : Int64) : Int64 := (if q0 < q1 then q1 else q0)
set_option maxRecDepth 65536 in
set_option maxHeartbeats 40000000 in
theorem own_mmax (l : Launch) (Z : State) (a0 : Array Value) (hw : ∀ d ∈ tables_1, d.before a0 Z = true) (ws : List Jvm.Cond) (q0 : Int64) (q1 : Int64)  (h0 : Heap) (n0 : Nat) (Z0 : n0 ≤ h0.size)  :
    own_Met l Z (⟨"java/lang/Math", "max", "(JJ)J"⟩ : MethodName) jdk_29_method_66_code 4 (some .long) ws ({ frames := 0, cells := 0, slots := 0, locals := 0 } : Room) #[(.long q0), (.long q1)] h0 (fun (v : Option Value) (h : Heap) (L : List Loc) => v = some (.long (own_fmax q0 q1)) ∧ Fr n0 L ∧ h = h0) := by
  refine own_enter (Jvm.Free.JP.mathPlain rfl (by decide +kernel)) ?_
  intro p e s m below meth c s₁ P hx hby hml hrt hlk hown hnm hZ X0 e0 hP
  have N0 := Fr.nil n0
  have K0 := Keep.refl h0 []
  have hml' : c.maxLocals = 4 := hml
  refine own_cast (own_efmax m q0 q1) ?_
  show own_End p e below P (s₁.setTop (mkF m 0 #[.val (.long q0), .second, .val (.long q1), .second] []))
  refine own_st (fun _ => XS.lloadN X0.here hx rfl (hb hby own_dmax_0) rfl) ?_
  show own_End p e below P (s₁.setTop (mkF m 1 #[.val (.long q0), .second, .val (.long q1), .second] [(.long q0)]))
  refine own_st (fun _ => XS.lloadN X0.here hx rfl (hb hby own_dmax_1) rfl) ?_
  show own_End p e below P (s₁.setTop (mkF m 2 #[.val (.long q0), .second, .val (.long q1), .second] [(.long q1), (.long q0)]))
  refine own_st (fun _ => XS.lcmp X0.here hx rfl (hb hby own_dmax_2) rfl) ?_
  show own_End p e below P (s₁.setTop (mkF m 3 #[.val (.long q0), .second, .val (.long q1), .second] [(.int (lcmpW q0 q1))]))
  by_cases hc1 : q0 < q1
  · refine own_st (fun _ => XS.ifYes X0.here hx rfl (pc0 := 3) (pc' := 10) rfl (hb hby own_dmax_3) rfl ((if0 _ _).trans (tlt (own_lt.mpr hc1)).1) (by decide) (by decide)) ?_
    show own_End p e below P (s₁.setTop (mkF m 10 #[.val (.long q0), .second, .val (.long q1), .second] []))
    refine own_st (fun _ => XS.lloadN X0.here hx rfl (hb hby own_dmax_10) rfl) ?_
    show own_End p e below P (s₁.setTop (mkF m 11 #[.val (.long q0), .second, .val (.long q1), .second] [(.long q1)]))
    refine own_retL X0 hx hlk hP hrt (hb hby own_dmax_11) (by decide) (by decide) ⟨congrArg (fun z => some (Value.long z)) ?_, N0, e0⟩
    exact (show own_fmax q0 q1 = q1 from (if_pos hc1).trans (rfl)).symm
  · refine own_st (fun _ => XS.ifNo X0.here hx rfl (hb hby own_dmax_3) rfl ((if0 _ _).trans (flt (mt own_lt.mp hc1)).1)) ?_
    show own_End p e below P (s₁.setTop (mkF m 6 #[.val (.long q0), .second, .val (.long q1), .second] []))
    refine own_st (fun _ => XS.lloadN X0.here hx rfl (hb hby own_dmax_6) rfl) ?_
    show own_End p e below P (s₁.setTop (mkF m 7 #[.val (.long q0), .second, .val (.long q1), .second] [(.long q0)]))
    refine own_st (fun _ => XS.goto X0.here hx rfl (pc0 := 7) (pc' := 11) rfl (hb hby own_dmax_7) (by decide) (by decide)) ?_
    show own_End p e below P (s₁.setTop (mkF m 11 #[.val (.long q0), .second, .val (.long q1), .second] [(.long q0)]))
    refine own_retL X0 hx hlk hP hrt (hb hby own_dmax_11) (by decide) (by decide) ⟨congrArg (fun z => some (Value.long z)) ?_, N0, e0⟩
    exact (show own_fmax q0 q1 = q0 from (if_neg hc1).trans (rfl)).symm
theorem own_drnn_0 : decode jdk_31_method_11_code 0 = .ok (.aload_n 0, 1) := by decide +kernel
theorem own_drnn_1 : decode jdk_31_method_11_code 1 = .ok (.ifnonnull 12, 3) := by decide +kernel
theorem own_drnn_13 : decode jdk_31_method_11_code 13 = .ok (.aload_n 0, 1) := by decide +kernel
theorem own_drnn_14 : decode jdk_31_method_11_code 14 = .ok (.areturn, 1) := by decide +kernel
theorem own_efrnn (m : MethodId) (o0 : Addr) (o1 : Addr) : entryFrame m #[(.ref o0), (.ref o1)] 2 = mkF m 0 #[.val (.ref o0), .val (.ref o1)] [] := by first | (simp [entryFrame, mkF, argsToLocals, Value.category]; done) | rfl
theorem own_pn_java_util_Objects : plainName "java/util/Objects" = true := by first | (simp [plainName, overriddenIn]; done) | decide +kernel
set_option maxRecDepth 65536 in
set_option maxHeartbeats 40000000 in
theorem own_mrnn (l : Launch) (Z : State) (a0 : Array Value) (hw : ∀ d ∈ tables_1, d.before a0 Z = true) (ws : List Jvm.Cond) (o0 : Addr) (o1 : Addr)  (h0 : Heap) (n0 : Nat) (Z0 : n0 ≤ h0.size)  :
    own_Met l Z (⟨"java/util/Objects", "requireNonNull", "(Ljava/lang/Object;Ljava/lang/String;)Ljava/lang/Object;"⟩ : MethodName) jdk_31_method_11_code 2 (some (.object "java/lang/Object")) ws ({ frames := 0, cells := 0, slots := 0, locals := 0 } : Room) #[(.ref o0), (.ref o1)] h0 (fun (v : Option Value) (h : Heap) (L : List Loc) => v = some (.ref o0) ∧ Fr n0 L ∧ h = h0) := by
  refine own_enter (plainFor_of_name own_pn_java_util_Objects) ?_
  intro p e s m below meth c s₁ P hx hby hml hrt hlk hown hnm hZ X0 e0 hP
  have N0 := Fr.nil n0
  have K0 := Keep.refl h0 []
  have hml' : c.maxLocals = 2 := hml
  refine own_cast (own_efrnn m o0 o1) ?_
  show own_End p e below P (s₁.setTop (mkF m 0 #[.val (.ref o0), .val (.ref o1)] []))
  refine own_st (fun _ => XS.aloadN X0.here hx rfl (hb hby own_drnn_0) rfl rfl) ?_
  show own_End p e below P (s₁.setTop (mkF m 1 #[.val (.ref o0), .val (.ref o1)] [(.ref o0)]))
  refine own_st (fun _ => XS.ifnonnullYes X0.here hx rfl (pc0 := 1) (pc' := 13) rfl (hb hby own_drnn_1) rfl (by decide) (by decide)) ?_
  show own_End p e below P (s₁.setTop (mkF m 13 #[.val (.ref o0), .val (.ref o1)] []))
  refine own_st (fun _ => XS.aloadN X0.here hx rfl (hb hby own_drnn_13) rfl rfl) ?_
  show own_End p e below P (s₁.setTop (mkF m 14 #[.val (.ref o0), .val (.ref o1)] [(.ref o0)]))
  exact own_retR X0 hx hlk hP rfl rfl hrt (hb hby own_drnn_14) (by decide) (by decide) ⟨rfl, N0, e0⟩
theorem own_dinit2_0 : decode prog_6_method_4_code 0 = .ok (.aload_n 0, 1) := by decide +kernel
theorem own_dinit2_1 : decode prog_6_method_4_code 1 = .ok (.invokespecial 19, 3) := by decide +kernel
theorem own_dinit2_4 : decode prog_6_method_4_code 4 = .ok (.iload_n 1, 1) := by decide +kernel
theorem own_dinit2_5 : decode prog_6_method_4_code 5 = .ok (.iconst 1, 1) := by decide +kernel
theorem own_dinit2_6 : decode prog_6_method_4_code 6 = .ok (.if_icmp .ge 17, 3) := by decide +kernel
theorem own_dinit2_23 : decode prog_6_method_4_code 23 = .ok (.ldc 33, 2) := by decide +kernel
theorem own_dinit2_25 : decode prog_6_method_4_code 25 = .ok (.lload_n 2, 1) := by decide +kernel
theorem own_dinit2_26 : decode prog_6_method_4_code 26 = .ok (.lconst 1, 1) := by decide +kernel
theorem own_dinit2_27 : decode prog_6_method_4_code 27 = .ok (.invokestatic 35, 3) := by decide +kernel
theorem own_pd_Ljava_lang_String_JJ_J_5 : parseMethodDescriptor "(Ljava/lang/String;JJ)J" = some ⟨[(.object "java/lang/String"), .long, .long], some .long⟩ := by decide +kernel
theorem own_dinit2_30 : decode prog_6_method_4_code 30 = .ok (.pop2, 1) := by decide +kernel
theorem own_dinit2_31 : decode prog_6_method_4_code 31 = .ok (.ldc 41, 2) := by decide +kernel
theorem own_dinit2_33 : decode prog_6_method_4_code 33 = .ok (.lload 4, 2) := by decide +kernel
theorem own_dinit2_35 : decode prog_6_method_4_code 35 = .ok (.lconst 0, 1) := by decide +kernel
theorem own_dinit2_36 : decode prog_6_method_4_code 36 = .ok (.invokestatic 35, 3) := by decide +kernel
theorem own_dinit2_39 : decode prog_6_method_4_code 39 = .ok (.pop2, 1) := by decide +kernel
theorem own_dinit2_40 : decode prog_6_method_4_code 40 = .ok (.iload 6, 2) := by decide +kernel
theorem own_dinit2_42 : decode prog_6_method_4_code 42 = .ok (.ifCond .lt 10, 3) := by decide +kernel
theorem own_dinit2_45 : decode prog_6_method_4_code 45 = .ok (.iload 6, 2) := by decide +kernel
theorem own_dinit2_47 : decode prog_6_method_4_code 47 = .ok (.bipush 100, 2) := by decide +kernel
theorem own_dinit2_49 : decode prog_6_method_4_code 49 = .ok (.if_icmp .le 18, 3) := by decide +kernel
theorem own_dinit2_67 : decode prog_6_method_4_code 67 = .ok (.aload_n 0, 1) := by decide +kernel
theorem own_dinit2_68 : decode prog_6_method_4_code 68 = .ok (.iload_n 1, 1) := by decide +kernel
theorem own_dinit2_69 : decode prog_6_method_4_code 69 = .ok (.putfield 44, 3) := by decide +kernel
theorem own_dinit2_72 : decode prog_6_method_4_code 72 = .ok (.aload_n 0, 1) := by decide +kernel
theorem own_dinit2_73 : decode prog_6_method_4_code 73 = .ok (.lload_n 2, 1) := by decide +kernel
theorem own_dinit2_74 : decode prog_6_method_4_code 74 = .ok (.putfield 48, 3) := by decide +kernel
theorem own_dinit2_77 : decode prog_6_method_4_code 77 = .ok (.aload_n 0, 1) := by decide +kernel
theorem own_dinit2_78 : decode prog_6_method_4_code 78 = .ok (.lload_n 2, 1) := by decide +kernel
theorem own_dinit2_79 : decode prog_6_method_4_code 79 = .ok (.lload 4, 2) := by decide +kernel
theorem own_dinit2_81 : decode prog_6_method_4_code 81 = .ok (.invokestatic 52, 3) := by decide +kernel
theorem own_pd_JJ_J_303 : parseMethodDescriptor "(JJ)J" = some ⟨[.long, .long], some .long⟩ := by decide +kernel
theorem own_dinit2_84 : decode prog_6_method_4_code 84 = .ok (.putfield 58, 3) := by decide +kernel
theorem own_dinit2_87 : decode prog_6_method_4_code 87 = .ok (.aload_n 0, 1) := by decide +kernel
theorem own_dinit2_88 : decode prog_6_method_4_code 88 = .ok (.iload 6, 2) := by decide +kernel
theorem own_dinit2_90 : decode prog_6_method_4_code 90 = .ok (.putfield 61, 3) := by decide +kernel
theorem own_dinit2_93 : decode prog_6_method_4_code 93 = .ok (.aload_n 0, 1) := by decide +kernel
theorem own_dinit2_94 : decode prog_6_method_4_code 94 = .ok (.aload 7, 2) := by decide +kernel
theorem own_dinit2_96 : decode prog_6_method_4_code 96 = .ok (.ldc 64, 2) := by decide +kernel
theorem own_dinit2_98 : decode prog_6_method_4_code 98 = .ok (.invokestatic 66, 3) := by decide +kernel
theorem own_pd_Ljava_lang_Object_Ljava_lang_String__Ljava_lang_Object_120 : parseMethodDescriptor "(Ljava/lang/Object;Ljava/lang/String;)Ljava/lang/Object;" = some ⟨[(.object "java/lang/Object"), (.object "java/lang/String")], some (.object "java/lang/Object")⟩ := by decide +kernel
theorem own_dinit2_101 : decode prog_6_method_4_code 101 = .ok (.checkcast 2, 3) := by decide +kernel
theorem own_dinit2_104 : decode prog_6_method_4_code 104 = .ok (.putfield 72, 3) := by decide +kernel
theorem own_dinit2_107 : decode prog_6_method_4_code 107 = .ok (.return_, 1) := by decide +kernel
theorem own_efinit2 (m : MethodId) (o0 : Addr) (p1 : Int32) (q2 : Int64) (q3 : Int64) (p4 : Int32) (o5 : Addr) : entryFrame m #[(.ref o0), (.int p1), (.long q2), (.long q3), (.int p4), (.ref o5)] 8 = mkF m 0 #[.val (.ref o0), .val (.int p1), .val (.long q2), .second, .val (.long q3), .second, .val (.int p4), .val (.ref o5)] [] := by first | (simp [entryFrame, mkF, argsToLocals, Value.category]; done) | rfl
theorem own_pn_com_example_fenliu_fenliu_Ejection : plainName "com/example/fenliu/fenliu/Ejection" = true := by first | (simp [plainName, overriddenIn]; done) | decide +kernel
set_option maxRecDepth 65536 in
set_option maxHeartbeats 40000000 in
theorem own_minit2 (l : Launch) (Z : State) (a0 : Array Value) (hw : ∀ d ∈ tables_1, d.before a0 Z = true) (ws : List Jvm.Cond) (o0 : Addr) (p1 : Int32) (q2 : Int64) (q3 : Int64) (p4 : Int32) (o5 : Addr)  (h0 : Heap) (n0 : Nat) (Z0 : n0 ≤ h0.size) (E_o0 : Exa Z h0 o0 "com/example/fenliu/fenliu/Ejection") (E_o5 : Exa Z h0 o5 "java/time/Clock$SystemInstantSource") (F_o0_failures : Fld Z h0 o0 "com/example/fenliu/fenliu/Ejection" "failures" "I" (.int (0 : Int32))) (F_o0_base : Fld Z h0 o0 "com/example/fenliu/fenliu/Ejection" "base" "J" (.long (0 : Int64))) (F_o0_longest : Fld Z h0 o0 "com/example/fenliu/fenliu/Ejection" "longest" "J" (.long (0 : Int64))) (F_o0_percent : Fld Z h0 o0 "com/example/fenliu/fenliu/Ejection" "percent" "I" (.int (0 : Int32))) (F_o0_clock : Fld Z h0 o0 "com/example/fenliu/fenliu/Ejection" "clock" "Ljava/time/InstantSource;" .null) (low_o0 : n0 ≤ o0) (hr : ¬ (p1 < (1 : Int32))) (hp0 : ¬ (p4 < (0 : Int32))) (hp1 : ¬ ((100 : Int32) < p4)) (hb1 : ¬ (q2 < (1 : Int64))) (hb2 : ¬ ((2147483647 : Int64) < q2)) (hl1 : ¬ (q3 < (0 : Int64))) (hl2 : ¬ ((2147483647 : Int64) < q3)) :
    own_MetW l Z (⟨"com/example/fenliu/fenliu/Ejection", "<init>", "(IJJILjava/time/InstantSource;)V"⟩ : MethodName) prog_6_method_4_code 8 none ws ({ frames := 1, cells := 6, slots := 216, locals := 16 } : Room) #[(.ref o0), (.int p1), (.long q2), (.long q3), (.int p4), (.ref o5)] h0 (fun (v : Option Value) (h : Heap) (L : List Loc) => v = none ∧ Fr n0 L ∧ Keep h0 h [o0] ∧ Exa Z h o0 "com/example/fenliu/fenliu/Ejection" ∧ Fld Z h o0 "com/example/fenliu/fenliu/Ejection" "failures" "I" (.int p1) ∧ Fld Z h o0 "com/example/fenliu/fenliu/Ejection" "base" "J" (.long q2) ∧ Fld Z h o0 "com/example/fenliu/fenliu/Ejection" "longest" "J" (.long (own_fmax q2 q3)) ∧ Fld Z h o0 "com/example/fenliu/fenliu/Ejection" "percent" "I" (.int p4) ∧ Fld Z h o0 "com/example/fenliu/fenliu/Ejection" "clock" "Ljava/time/InstantSource;" (.ref o5)) := by
  refine own_enterW (plainFor_of_name own_pn_com_example_fenliu_fenliu_Ejection) ?_
  intro p e s m below meth c s₁ P vm0 k0 hx hby hml hrt hlk hown hnm hZ X0 e0 hS hk hP
  have N0 := Fr.nil n0
  have K0 := Keep.refl h0 [o0]
  have hml' : c.maxLocals = 8 := hml
  refine own_cast (own_efinit2 m o0 p1 q2 q3 p4 o5) ?_
  show own_End p e below P (s₁.setTop (mkF m 0 #[.val (.ref o0), .val (.int p1), .val (.long q2), .second, .val (.long q3), .second, .val (.int p4), .val (.ref o5)] []))
  refine own_st (fun _ => XS.aloadN X0.here hx rfl (hb hby own_dinit2_0) rfl rfl) ?_
  show own_End p e below P (s₁.setTop (mkF m 1 #[.val (.ref o0), .val (.int p1), .val (.long q2), .second, .val (.long q3), .second, .val (.int p4), .val (.ref o5)] [(.ref o0)]))
  obtain ⟨T1, X1, e1, st1⟩ := initO X0 hx hZ hown (hw _ (List.mem_of_getElem? (i := 18) rfl)) (hw _ (List.mem_of_getElem? (i := 19) rfl)) (hw _ (List.mem_of_getElem? (i := 20) rfl)) e0 (g := (mkF m 1 #[.val (.ref o0), .val (.int p1), .val (.long q2), .second, .val (.long q3), .second, .val (.int p4), .val (.ref o5)] [(.ref o0)])) rfl (by rw [hml']; rfl) rfl (hb hby own_dinit2_1) (by decide) (W := 0) (by show 2 * 0 + _ ≤ _; exact Nat.le_of_eq rfl) (by decide)
  refine own_st (fun _ => st1 _) ?_
  show own_End p e below P (T1.setTop (mkF m 4 #[.val (.ref o0), .val (.int p1), .val (.long q2), .second, .val (.long q3), .second, .val (.int p4), .val (.ref o5)] []))
  refine own_st (fun _ => XS.iloadN X1.here hx rfl (hb hby own_dinit2_4) rfl) ?_
  show own_End p e below P (T1.setTop (mkF m 5 #[.val (.ref o0), .val (.int p1), .val (.long q2), .second, .val (.long q3), .second, .val (.int p4), .val (.ref o5)] [(.int p1)]))
  refine own_st (fun _ => XS.iconst X1.here hx rfl (hb hby own_dinit2_5)) ?_
  show own_End p e below P (T1.setTop (mkF m 6 #[.val (.ref o0), .val (.int p1), .val (.long q2), .second, .val (.long q3), .second, .val (.int p4), .val (.ref o5)] [(.int (1 : Int32)), (.int p1)]))
  refine own_st (fun _ => XS.icmpYes X1.here hx rfl (pc0 := 6) (pc' := 23) rfl (hb hby own_dinit2_6) rfl (flt hr).2.1 (by decide) (by decide)) ?_
  show own_End p e below P (T1.setTop (mkF m 23 #[.val (.ref o0), .val (.int p1), .val (.long q2), .second, .val (.long q3), .second, .val (.int p4), .val (.ref o5)] []))
  obtain ⟨a2, T2, h2, k2, X2, e2, E2, hS, hk2, hZ, hown, st2⟩ := ldcS X1 hx hZ hown (hw _ (List.mem_of_getElem? (i := 21) rfl)) (own_wS hw) e1 hS hk (g := (mkF m 23 #[.val (.ref o0), .val (.int p1), .val (.long q2), .second, .val (.long q3), .second, .val (.int p4), .val (.ref o5)] [])) rfl (hb hby own_dinit2_23) (n := 80) (by decide) (by decide) (by decide) (by decide)
  have K2 := Keep.ext K0 E2
  refine own_st (fun _ => st2 _) ?_
  show own_End p e below P (T2.setTop (mkF m 25 #[.val (.ref o0), .val (.int p1), .val (.long q2), .second, .val (.long q3), .second, .val (.int p4), .val (.ref o5)] [(.ref a2)]))
  refine own_st (fun _ => XS.lloadN X2.here hx rfl (hb hby own_dinit2_25) rfl) ?_
  show own_End p e below P (T2.setTop (mkF m 26 #[.val (.ref o0), .val (.int p1), .val (.long q2), .second, .val (.long q3), .second, .val (.int p4), .val (.ref o5)] [(.long q2), (.ref a2)]))
  refine own_st (fun _ => XS.lconst X2.here hx rfl (hb hby own_dinit2_26)) ?_
  show own_End p e below P (T2.setTop (mkF m 27 #[.val (.ref o0), .val (.int p1), .val (.long q2), .second, .val (.long q3), .second, .val (.int p4), .val (.ref o5)] [(.long (1 : Int64)), (.long q2), (.ref a2)]))
  refine own_callS X2 hx hZ (y := (⟨"com/example/fenliu/fenliu/EpochMillis", "checkedSpan", "(Ljava/lang/String;JJ)J"⟩ : MethodName)) hown (hw _ (List.mem_of_getElem? (i := 29) rfl)) (hw _ (List.mem_of_getElem? (i := 30) rfl)) (hw _ (List.mem_of_getElem? (i := 31) rfl)) (hw _ (List.mem_of_getElem? (i := 32) rfl)) (by decide) (own_mspan l Z a0 hw [] a2 q2 (1 : Int64)  h2 n0 (Nat.le_trans Z0 K2.1) hb1 hb2) 0 (by decide) (by decide) e2 (by decide) (by decide) (g := (mkF m 27 #[.val (.ref o0), .val (.int p1), .val (.long q2), .second, .val (.long q3), .second, .val (.int p4), .val (.ref o5)] [(.long (1 : Int64)), (.long q2), (.ref a2)])) rfl (by rw [hml']; rfl) (argsL := [(.ref a2), (.long q2), (.long (1 : Int64))]) (rest := []) rfl (lenOf own_pd_Ljava_lang_String_JJ_J_5 rfl) rfl (by show 2 * 0 + _ ≤ _; exact Nat.le_of_eq rfl) (hb hby own_dinit2_27) (fun r3 T3 L3 X3 hQ3 => ?_)
  obtain ⟨rfl, Nq3, eq3⟩ := hQ3
  have N3 := Fr.app N0 Nq3
  show own_End p e below P (T3.setTop (mkF m 30 #[.val (.ref o0), .val (.int p1), .val (.long q2), .second, .val (.long q3), .second, .val (.int p4), .val (.ref o5)] [(.long q2)]))
  refine own_pop2L X3 hx (hb hby own_dinit2_30) ?_
  show own_End p e below P (T3.setTop (mkF m 31 #[.val (.ref o0), .val (.int p1), .val (.long q2), .second, .val (.long q3), .second, .val (.int p4), .val (.ref o5)] []))
  obtain ⟨a4, T4, h4, k4, X4, e4, E4, hS, hk4, hZ, hown, st4⟩ := ldcS X3 hx hZ hown (hw _ (List.mem_of_getElem? (i := 34) rfl)) (own_wS hw) eq3 hS hk2 (g := (mkF m 31 #[.val (.ref o0), .val (.int p1), .val (.long q2), .second, .val (.long q3), .second, .val (.int p4), .val (.ref o5)] [])) rfl (hb hby own_dinit2_31) (n := 92) (by decide) (by decide) (by decide) (by decide)
  have K4 := Keep.ext K2 E4
  refine own_st (fun _ => st4 _) ?_
  show own_End p e below P (T4.setTop (mkF m 33 #[.val (.ref o0), .val (.int p1), .val (.long q2), .second, .val (.long q3), .second, .val (.int p4), .val (.ref o5)] [(.ref a4)]))
  refine own_st (fun _ => XS.lload X4.here hx rfl (hb hby own_dinit2_33) rfl) ?_
  show own_End p e below P (T4.setTop (mkF m 35 #[.val (.ref o0), .val (.int p1), .val (.long q2), .second, .val (.long q3), .second, .val (.int p4), .val (.ref o5)] [(.long q3), (.ref a4)]))
  refine own_st (fun _ => XS.lconst X4.here hx rfl (hb hby own_dinit2_35)) ?_
  show own_End p e below P (T4.setTop (mkF m 36 #[.val (.ref o0), .val (.int p1), .val (.long q2), .second, .val (.long q3), .second, .val (.int p4), .val (.ref o5)] [(.long (0 : Int64)), (.long q3), (.ref a4)]))
  refine own_callS X4 hx hZ (y := (⟨"com/example/fenliu/fenliu/EpochMillis", "checkedSpan", "(Ljava/lang/String;JJ)J"⟩ : MethodName)) hown (hw _ (List.mem_of_getElem? (i := 29) rfl)) (hw _ (List.mem_of_getElem? (i := 30) rfl)) (hw _ (List.mem_of_getElem? (i := 31) rfl)) (hw _ (List.mem_of_getElem? (i := 32) rfl)) (by decide) (own_mspan l Z a0 hw [] a4 q3 (0 : Int64)  h4 n0 (Nat.le_trans Z0 K4.1) hl1 hl2) 0 (by decide) (by decide) e4 (by decide) (by decide) (g := (mkF m 36 #[.val (.ref o0), .val (.int p1), .val (.long q2), .second, .val (.long q3), .second, .val (.int p4), .val (.ref o5)] [(.long (0 : Int64)), (.long q3), (.ref a4)])) rfl (by rw [hml']; rfl) (argsL := [(.ref a4), (.long q3), (.long (0 : Int64))]) (rest := []) rfl (lenOf own_pd_Ljava_lang_String_JJ_J_5 rfl) rfl (by show 2 * 0 + _ ≤ _; exact Nat.le_of_eq rfl) (hb hby own_dinit2_36) (fun r5 T5 L5 X5 hQ5 => ?_)
  obtain ⟨rfl, Nq5, eq5⟩ := hQ5
  have N5 := Fr.app N3 Nq5
  show own_End p e below P (T5.setTop (mkF m 39 #[.val (.ref o0), .val (.int p1), .val (.long q2), .second, .val (.long q3), .second, .val (.int p4), .val (.ref o5)] [(.long q3)]))
  refine own_pop2L X5 hx (hb hby own_dinit2_39) ?_
  show own_End p e below P (T5.setTop (mkF m 40 #[.val (.ref o0), .val (.int p1), .val (.long q2), .second, .val (.long q3), .second, .val (.int p4), .val (.ref o5)] []))
  refine own_st (fun _ => XS.iload X5.here hx rfl (hb hby own_dinit2_40) rfl) ?_
  show own_End p e below P (T5.setTop (mkF m 42 #[.val (.ref o0), .val (.int p1), .val (.long q2), .second, .val (.long q3), .second, .val (.int p4), .val (.ref o5)] [(.int p4)]))
  refine own_st (fun _ => XS.ifNo X5.here hx rfl (hb hby own_dinit2_42) rfl ((if0 _ _).trans (flt hp0).1)) ?_
  show own_End p e below P (T5.setTop (mkF m 45 #[.val (.ref o0), .val (.int p1), .val (.long q2), .second, .val (.long q3), .second, .val (.int p4), .val (.ref o5)] []))
  refine own_st (fun _ => XS.iload X5.here hx rfl (hb hby own_dinit2_45) rfl) ?_
  show own_End p e below P (T5.setTop (mkF m 47 #[.val (.ref o0), .val (.int p1), .val (.long q2), .second, .val (.long q3), .second, .val (.int p4), .val (.ref o5)] [(.int p4)]))
  refine own_st (fun _ => XS.bipush X5.here hx rfl (hb hby own_dinit2_47)) ?_
  show own_End p e below P (T5.setTop (mkF m 49 #[.val (.ref o0), .val (.int p1), .val (.long q2), .second, .val (.long q3), .second, .val (.int p4), .val (.ref o5)] [(.int (100 : Int32)), (.int p4)]))
  refine own_st (fun _ => XS.icmpYes X5.here hx rfl (pc0 := 49) (pc' := 67) rfl (hb hby own_dinit2_49) rfl (flt hp1).2.2.2 (by decide) (by decide)) ?_
  show own_End p e below P (T5.setTop (mkF m 67 #[.val (.ref o0), .val (.int p1), .val (.long q2), .second, .val (.long q3), .second, .val (.int p4), .val (.ref o5)] []))
  refine own_st (fun _ => XS.aloadN X5.here hx rfl (hb hby own_dinit2_67) rfl rfl) ?_
  show own_End p e below P (T5.setTop (mkF m 68 #[.val (.ref o0), .val (.int p1), .val (.long q2), .second, .val (.long q3), .second, .val (.int p4), .val (.ref o5)] [(.ref o0)]))
  refine own_st (fun _ => XS.iloadN X5.here hx rfl (hb hby own_dinit2_68) rfl) ?_
  show own_End p e below P (T5.setTop (mkF m 69 #[.val (.ref o0), .val (.int p1), .val (.long q2), .second, .val (.long q3), .second, .val (.int p4), .val (.ref o5)] [(.int p1), (.ref o0)]))
  have G6 := ((F_o0_failures.ext E2).ext E4)
  have G7 := ((E_o0.ext E2).ext E4)
  obtain ⟨T8, h8, X8, e8, W8, st8⟩ := putF X5 hx hZ hown (host := "") (Or.inl (hw _ (List.mem_of_getElem? (i := 35) rfl))) Via.refl eq5 G6 G7 (Or.inr ⟨(hw _ (List.mem_of_getElem? (i := 36) rfl)), rfl, hnm⟩) (hw _ (List.mem_of_getElem? (i := 2) rfl)) (ty := .int) (by decide) rfl rfl (g := (mkF m 69 #[.val (.ref o0), .val (.int p1), .val (.long q2), .second, .val (.long q3), .second, .val (.int p4), .val (.ref o5)] [(.int p1), (.ref o0)])) rfl rfl (hb hby own_dinit2_69)
  have N8 := Fr.snoc X8 N5 low_o0
  have K8 := Keep.wr K4 W8 (Or.inl (List.mem_of_getElem? (i := 0) rfl))
  have F8 := G6.same W8
  refine own_st (fun _ => st8 _) ?_
  show own_End p e below P (T8.setTop (mkF m 72 #[.val (.ref o0), .val (.int p1), .val (.long q2), .second, .val (.long q3), .second, .val (.int p4), .val (.ref o5)] []))
  refine own_st (fun _ => XS.aloadN X8.here hx rfl (hb hby own_dinit2_72) rfl rfl) ?_
  show own_End p e below P (T8.setTop (mkF m 73 #[.val (.ref o0), .val (.int p1), .val (.long q2), .second, .val (.long q3), .second, .val (.int p4), .val (.ref o5)] [(.ref o0)]))
  refine own_st (fun _ => XS.lloadN X8.here hx rfl (hb hby own_dinit2_73) rfl) ?_
  show own_End p e below P (T8.setTop (mkF m 74 #[.val (.ref o0), .val (.int p1), .val (.long q2), .second, .val (.long q3), .second, .val (.int p4), .val (.ref o5)] [(.long q2), (.ref o0)]))
  have G9 := (((F_o0_base.ext E2).ext E4).other W8 (Or.inr (slot_ne (Or.inr (hw _ (List.mem_of_getElem? (i := 38) rfl))) (Or.inr (hw _ (List.mem_of_getElem? (i := 36) rfl))) (by decide) (t := .long) (t' := .int) (by decide) (by decide))))
  have G10 := (G7.wr W8)
  obtain ⟨T11, h11, X11, e11, W11, st11⟩ := putF X8 hx hZ hown (host := "") (Or.inl (hw _ (List.mem_of_getElem? (i := 37) rfl))) Via.refl e8 G9 G10 (Or.inr ⟨(hw _ (List.mem_of_getElem? (i := 38) rfl)), rfl, hnm⟩) (hw _ (List.mem_of_getElem? (i := 2) rfl)) (ty := .long) (by decide) rfl rfl (g := (mkF m 74 #[.val (.ref o0), .val (.int p1), .val (.long q2), .second, .val (.long q3), .second, .val (.int p4), .val (.ref o5)] [(.long q2), (.ref o0)])) rfl rfl (hb hby own_dinit2_74)
  have N11 := Fr.snoc X11 N8 low_o0
  have K11 := Keep.wr K8 W11 (Or.inl (List.mem_of_getElem? (i := 0) rfl))
  have F11 := G9.same W11
  refine own_st (fun _ => st11 _) ?_
  show own_End p e below P (T11.setTop (mkF m 77 #[.val (.ref o0), .val (.int p1), .val (.long q2), .second, .val (.long q3), .second, .val (.int p4), .val (.ref o5)] []))
  refine own_st (fun _ => XS.aloadN X11.here hx rfl (hb hby own_dinit2_77) rfl rfl) ?_
  show own_End p e below P (T11.setTop (mkF m 78 #[.val (.ref o0), .val (.int p1), .val (.long q2), .second, .val (.long q3), .second, .val (.int p4), .val (.ref o5)] [(.ref o0)]))
  refine own_st (fun _ => XS.lloadN X11.here hx rfl (hb hby own_dinit2_78) rfl) ?_
  show own_End p e below P (T11.setTop (mkF m 79 #[.val (.ref o0), .val (.int p1), .val (.long q2), .second, .val (.long q3), .second, .val (.int p4), .val (.ref o5)] [(.long q2), (.ref o0)]))
  refine own_st (fun _ => XS.lload X11.here hx rfl (hb hby own_dinit2_79) rfl) ?_
  show own_End p e below P (T11.setTop (mkF m 81 #[.val (.ref o0), .val (.int p1), .val (.long q2), .second, .val (.long q3), .second, .val (.int p4), .val (.ref o5)] [(.long q3), (.long q2), (.ref o0)]))
  refine own_callS X11 hx hZ (y := (⟨"java/lang/Math", "max", "(JJ)J"⟩ : MethodName)) hown (hw _ (List.mem_of_getElem? (i := 39) rfl)) (hw _ (List.mem_of_getElem? (i := 40) rfl)) (hw _ (List.mem_of_getElem? (i := 41) rfl)) (hw _ (List.mem_of_getElem? (i := 42) rfl)) (by decide) (own_mmax l Z a0 hw [] q2 q3  h11 n0 (Nat.le_trans Z0 K11.1) ) 1 (by decide) (by decide) e11 (by decide) (by decide) (g := (mkF m 81 #[.val (.ref o0), .val (.int p1), .val (.long q2), .second, .val (.long q3), .second, .val (.int p4), .val (.ref o5)] [(.long q3), (.long q2), (.ref o0)])) rfl (by rw [hml']; rfl) (argsL := [(.long q2), (.long q3)]) (rest := [(.ref o0)]) rfl (lenOf own_pd_JJ_J_303 rfl) rfl (by show 2 * 0 + _ ≤ _; exact Nat.le_of_eq rfl) (hb hby own_dinit2_81) (fun r12 T12 L12 X12 hQ12 => ?_)
  obtain ⟨rfl, Nq12, eq12⟩ := hQ12
  have N12 := Fr.app N11 Nq12
  show own_End p e below P (T12.setTop (mkF m 84 #[.val (.ref o0), .val (.int p1), .val (.long q2), .second, .val (.long q3), .second, .val (.int p4), .val (.ref o5)] [(.long (own_fmax q2 q3)), (.ref o0)]))
  have G13 := ((((F_o0_longest.ext E2).ext E4).other W8 (Or.inr (slot_ne (Or.inr (hw _ (List.mem_of_getElem? (i := 44) rfl))) (Or.inr (hw _ (List.mem_of_getElem? (i := 36) rfl))) (by decide) (t := .long) (t' := .int) (by decide) (by decide)))).other W11 (Or.inr (slot_ne (Or.inr (hw _ (List.mem_of_getElem? (i := 44) rfl))) (Or.inr (hw _ (List.mem_of_getElem? (i := 38) rfl))) (by decide) (t := .long) (t' := .long) (by decide) (by decide))))
  have G14 := (G10.wr W11)
  obtain ⟨T15, h15, X15, e15, W15, st15⟩ := putF X12 hx hZ hown (host := "") (Or.inl (hw _ (List.mem_of_getElem? (i := 43) rfl))) Via.refl eq12 G13 G14 (Or.inr ⟨(hw _ (List.mem_of_getElem? (i := 44) rfl)), rfl, hnm⟩) (hw _ (List.mem_of_getElem? (i := 2) rfl)) (ty := .long) (by decide) rfl rfl (g := (mkF m 84 #[.val (.ref o0), .val (.int p1), .val (.long q2), .second, .val (.long q3), .second, .val (.int p4), .val (.ref o5)] [(.long (own_fmax q2 q3)), (.ref o0)])) rfl rfl (hb hby own_dinit2_84)
  have N15 := Fr.snoc X15 N12 low_o0
  have K15 := Keep.wr K11 W15 (Or.inl (List.mem_of_getElem? (i := 0) rfl))
  have F15 := G13.same W15
  refine own_st (fun _ => st15 _) ?_
  show own_End p e below P (T15.setTop (mkF m 87 #[.val (.ref o0), .val (.int p1), .val (.long q2), .second, .val (.long q3), .second, .val (.int p4), .val (.ref o5)] []))
  refine own_st (fun _ => XS.aloadN X15.here hx rfl (hb hby own_dinit2_87) rfl rfl) ?_
  show own_End p e below P (T15.setTop (mkF m 88 #[.val (.ref o0), .val (.int p1), .val (.long q2), .second, .val (.long q3), .second, .val (.int p4), .val (.ref o5)] [(.ref o0)]))
  refine own_st (fun _ => XS.iload X15.here hx rfl (hb hby own_dinit2_88) rfl) ?_
  show own_End p e below P (T15.setTop (mkF m 90 #[.val (.ref o0), .val (.int p1), .val (.long q2), .second, .val (.long q3), .second, .val (.int p4), .val (.ref o5)] [(.int p4), (.ref o0)]))
  have G16 := (((((F_o0_percent.ext E2).ext E4).other W8 (Or.inr (slot_ne (Or.inr (hw _ (List.mem_of_getElem? (i := 46) rfl))) (Or.inr (hw _ (List.mem_of_getElem? (i := 36) rfl))) (by decide) (t := .int) (t' := .int) (by decide) (by decide)))).other W11 (Or.inr (slot_ne (Or.inr (hw _ (List.mem_of_getElem? (i := 46) rfl))) (Or.inr (hw _ (List.mem_of_getElem? (i := 38) rfl))) (by decide) (t := .int) (t' := .long) (by decide) (by decide)))).other W15 (Or.inr (slot_ne (Or.inr (hw _ (List.mem_of_getElem? (i := 46) rfl))) (Or.inr (hw _ (List.mem_of_getElem? (i := 44) rfl))) (by decide) (t := .int) (t' := .long) (by decide) (by decide))))
  have G17 := (G14.wr W15)
  obtain ⟨T18, h18, X18, e18, W18, st18⟩ := putF X15 hx hZ hown (host := "") (Or.inl (hw _ (List.mem_of_getElem? (i := 45) rfl))) Via.refl e15 G16 G17 (Or.inr ⟨(hw _ (List.mem_of_getElem? (i := 46) rfl)), rfl, hnm⟩) (hw _ (List.mem_of_getElem? (i := 2) rfl)) (ty := .int) (by decide) rfl rfl (g := (mkF m 90 #[.val (.ref o0), .val (.int p1), .val (.long q2), .second, .val (.long q3), .second, .val (.int p4), .val (.ref o5)] [(.int p4), (.ref o0)])) rfl rfl (hb hby own_dinit2_90)
  have N18 := Fr.snoc X18 N15 low_o0
  have K18 := Keep.wr K15 W18 (Or.inl (List.mem_of_getElem? (i := 0) rfl))
  have F18 := G16.same W18
  refine own_st (fun _ => st18 _) ?_
  show own_End p e below P (T18.setTop (mkF m 93 #[.val (.ref o0), .val (.int p1), .val (.long q2), .second, .val (.long q3), .second, .val (.int p4), .val (.ref o5)] []))
  refine own_st (fun _ => XS.aloadN X18.here hx rfl (hb hby own_dinit2_93) rfl rfl) ?_
  show own_End p e below P (T18.setTop (mkF m 94 #[.val (.ref o0), .val (.int p1), .val (.long q2), .second, .val (.long q3), .second, .val (.int p4), .val (.ref o5)] [(.ref o0)]))
  refine own_st (fun _ => XS.aload X18.here hx rfl (hb hby own_dinit2_94) rfl rfl) ?_
  show own_End p e below P (T18.setTop (mkF m 96 #[.val (.ref o0), .val (.int p1), .val (.long q2), .second, .val (.long q3), .second, .val (.int p4), .val (.ref o5)] [(.ref o5), (.ref o0)]))
  have G20 := (Nat.le_trans (Nat.le_trans (Nat.le_trans (Nat.le_trans hk4 (Keep.of_wr W8).1) (Keep.of_wr W11).1) (Keep.of_wr W15).1) (Keep.of_wr W18).1)
  obtain ⟨a19, T19, h19, k19, X19, e19, E19, hS, hk19, hZ, hown, st19⟩ := ldcS X18 hx hZ hown (hw _ (List.mem_of_getElem? (i := 47) rfl)) (own_wS hw) e18 hS G20 (g := (mkF m 96 #[.val (.ref o0), .val (.int p1), .val (.long q2), .second, .val (.long q3), .second, .val (.int p4), .val (.ref o5)] [(.ref o5), (.ref o0)])) rfl (hb hby own_dinit2_96) (n := 20) (by decide) (by decide) (by decide) (by decide)
  have K19 := Keep.ext K18 E19
  refine own_st (fun _ => st19 _) ?_
  show own_End p e below P (T19.setTop (mkF m 98 #[.val (.ref o0), .val (.int p1), .val (.long q2), .second, .val (.long q3), .second, .val (.int p4), .val (.ref o5)] [(.ref a19), (.ref o5), (.ref o0)]))
  refine own_callS X19 hx hZ (y := (⟨"java/util/Objects", "requireNonNull", "(Ljava/lang/Object;Ljava/lang/String;)Ljava/lang/Object;"⟩ : MethodName)) hown (hw _ (List.mem_of_getElem? (i := 48) rfl)) (hw _ (List.mem_of_getElem? (i := 49) rfl)) (hw _ (List.mem_of_getElem? (i := 50) rfl)) (hw _ (List.mem_of_getElem? (i := 51) rfl)) (by decide) (own_mrnn l Z a0 hw [] o5 a19  h19 n0 (Nat.le_trans Z0 K19.1) ) 1 (by decide) (by decide) e19 (by decide) (by decide) (g := (mkF m 98 #[.val (.ref o0), .val (.int p1), .val (.long q2), .second, .val (.long q3), .second, .val (.int p4), .val (.ref o5)] [(.ref a19), (.ref o5), (.ref o0)])) rfl (by rw [hml']; rfl) (argsL := [(.ref o5), (.ref a19)]) (rest := [(.ref o0)]) rfl (lenOf own_pd_Ljava_lang_Object_Ljava_lang_String__Ljava_lang_Object_120 rfl) rfl (by show 2 * 0 + _ ≤ _; exact Nat.le_of_eq rfl) (hb hby own_dinit2_98) (fun r21 T21 L21 X21 hQ21 => ?_)
  obtain ⟨rfl, Nq21, eq21⟩ := hQ21
  have N21 := Fr.app N18 Nq21
  show own_End p e below P (T21.setTop (mkF m 101 #[.val (.ref o0), .val (.int p1), .val (.long q2), .second, .val (.long q3), .second, .val (.int p4), .val (.ref o5)] [(.ref o5), (.ref o0)]))
  have G23 := (((((((E_o5.ext E2).ext E4).wr W8).wr W11).wr W15).wr W18).ext E19)
  obtain ⟨T22, X22, e22, st22⟩ := castY X21 hx hZ hown (hw _ (List.mem_of_getElem? (i := 52) rfl)) eq21 (Ins.of_exa G23 (hw _ (List.mem_of_getElem? (i := 53) rfl))) (g := (mkF m 101 #[.val (.ref o0), .val (.int p1), .val (.long q2), .second, .val (.long q3), .second, .val (.int p4), .val (.ref o5)] [(.ref o5), (.ref o0)])) rfl rfl (hb hby own_dinit2_101)
  refine own_st (fun _ => st22 _) ?_
  show own_End p e below P (T22.setTop (mkF m 104 #[.val (.ref o0), .val (.int p1), .val (.long q2), .second, .val (.long q3), .second, .val (.int p4), .val (.ref o5)] [(.ref o5), (.ref o0)]))
  have G24 := (((((((F_o0_clock.ext E2).ext E4).other W8 (Or.inr (slot_ne (Or.inr (hw _ (List.mem_of_getElem? (i := 55) rfl))) (Or.inr (hw _ (List.mem_of_getElem? (i := 36) rfl))) (by decide) (t := (.object "java/time/InstantSource")) (t' := .int) (by decide) (by decide)))).other W11 (Or.inr (slot_ne (Or.inr (hw _ (List.mem_of_getElem? (i := 55) rfl))) (Or.inr (hw _ (List.mem_of_getElem? (i := 38) rfl))) (by decide) (t := (.object "java/time/InstantSource")) (t' := .long) (by decide) (by decide)))).other W15 (Or.inr (slot_ne (Or.inr (hw _ (List.mem_of_getElem? (i := 55) rfl))) (Or.inr (hw _ (List.mem_of_getElem? (i := 44) rfl))) (by decide) (t := (.object "java/time/InstantSource")) (t' := .long) (by decide) (by decide)))).other W18 (Or.inr (slot_ne (Or.inr (hw _ (List.mem_of_getElem? (i := 55) rfl))) (Or.inr (hw _ (List.mem_of_getElem? (i := 46) rfl))) (by decide) (t := (.object "java/time/InstantSource")) (t' := .int) (by decide) (by decide)))).ext E19)
  have G25 := ((G17.wr W18).ext E19)
  obtain ⟨T26, h26, X26, e26, W26, st26⟩ := putF X22 hx hZ hown (host := "") (Or.inl (hw _ (List.mem_of_getElem? (i := 54) rfl))) Via.refl e22 G24 G25 (Or.inr ⟨(hw _ (List.mem_of_getElem? (i := 55) rfl)), rfl, hnm⟩) (hw _ (List.mem_of_getElem? (i := 2) rfl)) (ty := (.object "java/time/InstantSource")) (by decide) rfl rfl (g := (mkF m 104 #[.val (.ref o0), .val (.int p1), .val (.long q2), .second, .val (.long q3), .second, .val (.int p4), .val (.ref o5)] [(.ref o5), (.ref o0)])) rfl rfl (hb hby own_dinit2_104)
  have N26 := Fr.snoc X26 N21 low_o0
  have K26 := Keep.wr K19 W26 (Or.inl (List.mem_of_getElem? (i := 0) rfl))
  have F26 := G24.same W26
  refine own_st (fun _ => st26 _) ?_
  show own_End p e below P (T26.setTop (mkF m 107 #[.val (.ref o0), .val (.int p1), .val (.long q2), .second, .val (.long q3), .second, .val (.int p4), .val (.ref o5)] []))
  have G27 := (Nat.le_trans hk19 (Keep.of_wr W26).1)
  have G28 := (G25.wr W26)
  have G29 := (((((F8.other W11 (Or.inr (slot_ne (Or.inr (hw _ (List.mem_of_getElem? (i := 36) rfl))) (Or.inr (hw _ (List.mem_of_getElem? (i := 38) rfl))) (by decide) (t := .int) (t' := .long) (by decide) (by decide)))).other W15 (Or.inr (slot_ne (Or.inr (hw _ (List.mem_of_getElem? (i := 36) rfl))) (Or.inr (hw _ (List.mem_of_getElem? (i := 44) rfl))) (by decide) (t := .int) (t' := .long) (by decide) (by decide)))).other W18 (Or.inr (slot_ne (Or.inr (hw _ (List.mem_of_getElem? (i := 36) rfl))) (Or.inr (hw _ (List.mem_of_getElem? (i := 46) rfl))) (by decide) (t := .int) (t' := .int) (by decide) (by decide)))).ext E19).other W26 (Or.inr (slot_ne (Or.inr (hw _ (List.mem_of_getElem? (i := 36) rfl))) (Or.inr (hw _ (List.mem_of_getElem? (i := 55) rfl))) (by decide) (t := .int) (t' := (.object "java/time/InstantSource")) (by decide) (by decide))))
  have G30 := ((((F11.other W15 (Or.inr (slot_ne (Or.inr (hw _ (List.mem_of_getElem? (i := 38) rfl))) (Or.inr (hw _ (List.mem_of_getElem? (i := 44) rfl))) (by decide) (t := .long) (t' := .long) (by decide) (by decide)))).other W18 (Or.inr (slot_ne (Or.inr (hw _ (List.mem_of_getElem? (i := 38) rfl))) (Or.inr (hw _ (List.mem_of_getElem? (i := 46) rfl))) (by decide) (t := .long) (t' := .int) (by decide) (by decide)))).ext E19).other W26 (Or.inr (slot_ne (Or.inr (hw _ (List.mem_of_getElem? (i := 38) rfl))) (Or.inr (hw _ (List.mem_of_getElem? (i := 55) rfl))) (by decide) (t := .long) (t' := (.object "java/time/InstantSource")) (by decide) (by decide))))
  have G31 := (((F15.other W18 (Or.inr (slot_ne (Or.inr (hw _ (List.mem_of_getElem? (i := 44) rfl))) (Or.inr (hw _ (List.mem_of_getElem? (i := 46) rfl))) (by decide) (t := .long) (t' := .int) (by decide) (by decide)))).ext E19).other W26 (Or.inr (slot_ne (Or.inr (hw _ (List.mem_of_getElem? (i := 44) rfl))) (Or.inr (hw _ (List.mem_of_getElem? (i := 55) rfl))) (by decide) (t := .long) (t' := (.object "java/time/InstantSource")) (by decide) (by decide))))
  have G32 := ((F18.ext E19).other W26 (Or.inr (slot_ne (Or.inr (hw _ (List.mem_of_getElem? (i := 46) rfl))) (Or.inr (hw _ (List.mem_of_getElem? (i := 55) rfl))) (by decide) (t := .int) (t' := (.object "java/time/InstantSource")) (by decide) (by decide))))
  have hfin : ((fun (v : Option Value) (h : Heap) (L : List Loc) => v = none ∧ Fr n0 L ∧ Keep h0 h [o0] ∧ Exa Z h o0 "com/example/fenliu/fenliu/Ejection" ∧ Fld Z h o0 "com/example/fenliu/fenliu/Ejection" "failures" "I" (.int p1) ∧ Fld Z h o0 "com/example/fenliu/fenliu/Ejection" "base" "J" (.long q2) ∧ Fld Z h o0 "com/example/fenliu/fenliu/Ejection" "longest" "J" (.long (own_fmax q2 q3)) ∧ Fld Z h o0 "com/example/fenliu/fenliu/Ejection" "percent" "I" (.int p4) ∧ Fld Z h o0 "com/example/fenliu/fenliu/Ejection" "clock" "Ljava/time/InstantSource;" (.ref o5))) none h26 _ := ⟨rfl, N26, K26, G28, G29, G30, G31, G32, F26⟩
  refine own_retVW X26 hS G27 e26 hx hlk hP hrt (hb hby own_dinit2_107) (by decide) (by decide) ?_
  rw [e26]; exact hfin
theorem own_dinit_0 : decode prog_6_method_3_code 0 = .ok (.aload_n 0, 1) := by decide +kernel
theorem own_dinit_1 : decode prog_6_method_3_code 1 = .ok (.iload_n 1, 1) := by decide +kernel
theorem own_dinit_2 : decode prog_6_method_3_code 2 = .ok (.lload_n 2, 1) := by decide +kernel
theorem own_dinit_3 : decode prog_6_method_3_code 3 = .ok (.lload 4, 2) := by decide +kernel
theorem own_dinit_5 : decode prog_6_method_3_code 5 = .ok (.iload 6, 2) := by decide +kernel
theorem own_dinit_7 : decode prog_6_method_3_code 7 = .ok (.invokestatic 1, 3) := by decide +kernel
theorem own_pd_Ljava_time_InstantSource_527 : parseMethodDescriptor "()Ljava/time/InstantSource;" = some ⟨[], some (.object "java/time/InstantSource")⟩ := by decide +kernel
theorem own_dinit_10 : decode prog_6_method_3_code 10 = .ok (.invokespecial 16, 3) := by decide +kernel
theorem own_pd_IJJILjava_time_InstantSource__V_907 : parseMethodDescriptor "(IJJILjava/time/InstantSource;)V" = some ⟨[.int, .long, .long, .int, (.object "java/time/InstantSource")], none⟩ := by decide +kernel
theorem own_dinit_13 : decode prog_6_method_3_code 13 = .ok (.return_, 1) := by decide +kernel
theorem own_efinit (m : MethodId) (o0 : Addr) (p1 : Int32) (q2 : Int64) (q3 : Int64) (p4 : Int32) : entryFrame m #[(.ref o0), (.int p1), (.long q2), (.long q3), (.int p4)] 7 = mkF m 0 #[.val (.ref o0), .val (.int p1), .val (.long q2), .second, .val (.long q3), .second, .val (.int p4)] [] := by first | (simp [entryFrame, mkF, argsToLocals, Value.category]; done) | rfl
set_option maxRecDepth 65536 in
set_option maxHeartbeats 40000000 in
theorem own_minit (l : Launch) (Z : State) (a0 : Array Value) (hw : ∀ d ∈ tables_1, d.before a0 Z = true) (ws : List Jvm.Cond) (o0 : Addr) (p1 : Int32) (q2 : Int64) (q3 : Int64) (p4 : Int32) (s_Clock_SystemInstantSource_INSTANCE : Addr) (h0 : Heap) (n0 : Nat) (Z0 : n0 ≤ h0.size) (E_o0 : Exa Z h0 o0 "com/example/fenliu/fenliu/Ejection") (E_s_Clock_SystemInstantSource_INSTANCE : Exa Z h0 s_Clock_SystemInstantSource_INSTANCE "java/time/Clock$SystemInstantSource") (F_o0_failures : Fld Z h0 o0 "com/example/fenliu/fenliu/Ejection" "failures" "I" (.int (0 : Int32))) (F_o0_base : Fld Z h0 o0 "com/example/fenliu/fenliu/Ejection" "base" "J" (.long (0 : Int64))) (F_o0_longest : Fld Z h0 o0 "com/example/fenliu/fenliu/Ejection" "longest" "J" (.long (0 : Int64))) (F_o0_percent : Fld Z h0 o0 "com/example/fenliu/fenliu/Ejection" "percent" "I" (.int (0 : Int32))) (F_o0_clock : Fld Z h0 o0 "com/example/fenliu/fenliu/Ejection" "clock" "Ljava/time/InstantSource;" .null) (S_Clock_SystemInstantSource_INSTANCE : Sta Z h0 "java/time/Clock$SystemInstantSource" "INSTANCE" "Ljava/time/Clock$SystemInstantSource;" (.ref s_Clock_SystemInstantSource_INSTANCE)) (low_o0 : n0 ≤ o0) (hr : ¬ (p1 < (1 : Int32))) (hp0 : ¬ (p4 < (0 : Int32))) (hp1 : ¬ ((100 : Int32) < p4)) (hb1 : ¬ (q2 < (1 : Int64))) (hb2 : ¬ ((2147483647 : Int64) < q2)) (hl1 : ¬ (q3 < (0 : Int64))) (hl2 : ¬ ((2147483647 : Int64) < q3)) :
    own_MetW l Z (⟨"com/example/fenliu/fenliu/Ejection", "<init>", "(IJJI)V"⟩ : MethodName) prog_6_method_3_code 7 none ws ({ frames := 2, cells := 6, slots := 216, locals := 35 } : Room) #[(.ref o0), (.int p1), (.long q2), (.long q3), (.int p4)] h0 (fun (v : Option Value) (h : Heap) (L : List Loc) => v = none ∧ Fr n0 L ∧ Keep h0 h [o0] ∧ Exa Z h o0 "com/example/fenliu/fenliu/Ejection" ∧ Fld Z h o0 "com/example/fenliu/fenliu/Ejection" "failures" "I" (.int p1) ∧ Fld Z h o0 "com/example/fenliu/fenliu/Ejection" "base" "J" (.long q2) ∧ Fld Z h o0 "com/example/fenliu/fenliu/Ejection" "longest" "J" (.long (own_fmax q2 q3)) ∧ Fld Z h o0 "com/example/fenliu/fenliu/Ejection" "percent" "I" (.int p4) ∧ Fld Z h o0 "com/example/fenliu/fenliu/Ejection" "clock" "Ljava/time/InstantSource;" (.ref s_Clock_SystemInstantSource_INSTANCE)) := by
  refine own_enterW (plainFor_of_name own_pn_com_example_fenliu_fenliu_Ejection) ?_
  intro p e s m below meth c s₁ P vm0 k0 hx hby hml hrt hlk hown hnm hZ X0 e0 hS hk hP
  have N0 := Fr.nil n0
  have K0 := Keep.refl h0 [o0]
  have hml' : c.maxLocals = 7 := hml
  refine own_cast (own_efinit m o0 p1 q2 q3 p4) ?_
  show own_End p e below P (s₁.setTop (mkF m 0 #[.val (.ref o0), .val (.int p1), .val (.long q2), .second, .val (.long q3), .second, .val (.int p4)] []))
  refine own_st (fun _ => XS.aloadN X0.here hx rfl (hb hby own_dinit_0) rfl rfl) ?_
  show own_End p e below P (s₁.setTop (mkF m 1 #[.val (.ref o0), .val (.int p1), .val (.long q2), .second, .val (.long q3), .second, .val (.int p4)] [(.ref o0)]))
  refine own_st (fun _ => XS.iloadN X0.here hx rfl (hb hby own_dinit_1) rfl) ?_
  show own_End p e below P (s₁.setTop (mkF m 2 #[.val (.ref o0), .val (.int p1), .val (.long q2), .second, .val (.long q3), .second, .val (.int p4)] [(.int p1), (.ref o0)]))
  refine own_st (fun _ => XS.lloadN X0.here hx rfl (hb hby own_dinit_2) rfl) ?_
  show own_End p e below P (s₁.setTop (mkF m 3 #[.val (.ref o0), .val (.int p1), .val (.long q2), .second, .val (.long q3), .second, .val (.int p4)] [(.long q2), (.int p1), (.ref o0)]))
  refine own_st (fun _ => XS.lload X0.here hx rfl (hb hby own_dinit_3) rfl) ?_
  show own_End p e below P (s₁.setTop (mkF m 5 #[.val (.ref o0), .val (.int p1), .val (.long q2), .second, .val (.long q3), .second, .val (.int p4)] [(.long q3), (.long q2), (.int p1), (.ref o0)]))
  refine own_st (fun _ => XS.iload X0.here hx rfl (hb hby own_dinit_5) rfl) ?_
  show own_End p e below P (s₁.setTop (mkF m 7 #[.val (.ref o0), .val (.int p1), .val (.long q2), .second, .val (.long q3), .second, .val (.int p4)] [(.int p4), (.long q3), (.long q2), (.int p1), (.ref o0)]))
  refine own_callS X0 hx hZ (y := (⟨"java/time/InstantSource", "system", "()Ljava/time/InstantSource;"⟩ : MethodName)) hown (hw _ (List.mem_of_getElem? (i := 9) rfl)) (hw _ (List.mem_of_getElem? (i := 10) rfl)) (hw _ (List.mem_of_getElem? (i := 11) rfl)) (hw _ (List.mem_of_getElem? (i := 12) rfl)) (by decide) (own_msys l Z a0 hw []  s_Clock_SystemInstantSource_INSTANCE h0 n0 (Nat.le_trans Z0 K0.1) S_Clock_SystemInstantSource_INSTANCE) 7 (by decide) (by decide) e0 (by decide) (by decide) (g := (mkF m 7 #[.val (.ref o0), .val (.int p1), .val (.long q2), .second, .val (.long q3), .second, .val (.int p4)] [(.int p4), (.long q3), (.long q2), (.int p1), (.ref o0)])) rfl (by rw [hml']; rfl) (argsL := []) (rest := [(.int p4), (.long q3), (.long q2), (.int p1), (.ref o0)]) rfl (lenOf own_pd_Ljava_time_InstantSource_527 rfl) rfl (by show 2 * 0 + _ ≤ _; exact Nat.le_of_eq rfl) (hb hby own_dinit_7) (fun r1 T1 L1 X1 hQ1 => ?_)
  obtain ⟨rfl, Nq1, eq1⟩ := hQ1
  have N1 := Fr.app N0 Nq1
  show own_End p e below P (T1.setTop (mkF m 10 #[.val (.ref o0), .val (.int p1), .val (.long q2), .second, .val (.long q3), .second, .val (.int p4)] [(.ref s_Clock_SystemInstantSource_INSTANCE), (.int p4), (.long q3), (.long q2), (.int p1), (.ref o0)]))
  refine own_callIW X1 hS hk hx hZ (y := (⟨"com/example/fenliu/fenliu/Ejection", "<init>", "(IJJILjava/time/InstantSource;)V"⟩ : MethodName)) rfl hown (hw _ (List.mem_of_getElem? (i := 15) rfl)) (hw _ (List.mem_of_getElem? (i := 16) rfl)) (hw _ (List.mem_of_getElem? (i := 3) rfl)) (hw _ (List.mem_of_getElem? (i := 17) rfl)) (by decide) (own_minit2 l Z a0 hw [] o0 p1 q2 q3 p4 s_Clock_SystemInstantSource_INSTANCE  h0 n0 (Nat.le_trans Z0 K0.1) E_o0 E_s_Clock_SystemInstantSource_INSTANCE F_o0_failures F_o0_base F_o0_longest F_o0_percent F_o0_clock low_o0 hr hp0 hp1 hb1 hb2 hl1 hl2) 0 (by decide) (by decide) eq1 (by decide) (by decide) (g := (mkF m 10 #[.val (.ref o0), .val (.int p1), .val (.long q2), .second, .val (.long q3), .second, .val (.int p4)] [(.ref s_Clock_SystemInstantSource_INSTANCE), (.int p4), (.long q3), (.long q2), (.int p1), (.ref o0)])) rfl (by rw [hml']; rfl) (a := o0) (argsL := [(.int p1), (.long q2), (.long q3), (.int p4), (.ref s_Clock_SystemInstantSource_INSTANCE)]) (rest := []) rfl (lenOf own_pd_IJJILjava_time_InstantSource__V_907 rfl) rfl (by show 2 * 0 + _ ≤ _; exact Nat.le_of_eq rfl) (hb hby own_dinit_10) (fun r2 T2 L2 X2 hQ2 hS hZ hown => ?_)
  obtain ⟨rfl, Nq2, Kq2, f0_2, f1_2, f2_2, f3_2, f4_2, f5_2⟩ := hQ2
  have N2 := Fr.app N1 Nq2
  have K2 := Keep.trans K0 Kq2 (allS (Or.inl (List.mem_of_getElem? (i := 0) rfl)) all0)
  have hk2 : T2.heap.size ≤ T2.heap.size := Nat.le_refl _
  show own_End p e below P (T2.setTop (mkF m 13 #[.val (.ref o0), .val (.int p1), .val (.long q2), .second, .val (.long q3), .second, .val (.int p4)] []))
  have hfin : ((fun (v : Option Value) (h : Heap) (L : List Loc) => v = none ∧ Fr n0 L ∧ Keep h0 h [o0] ∧ Exa Z h o0 "com/example/fenliu/fenliu/Ejection" ∧ Fld Z h o0 "com/example/fenliu/fenliu/Ejection" "failures" "I" (.int p1) ∧ Fld Z h o0 "com/example/fenliu/fenliu/Ejection" "base" "J" (.long q2) ∧ Fld Z h o0 "com/example/fenliu/fenliu/Ejection" "longest" "J" (.long (own_fmax q2 q3)) ∧ Fld Z h o0 "com/example/fenliu/fenliu/Ejection" "percent" "I" (.int p4) ∧ Fld Z h o0 "com/example/fenliu/fenliu/Ejection" "clock" "Ljava/time/InstantSource;" (.ref s_Clock_SystemInstantSource_INSTANCE))) none T2.heap _ := ⟨rfl, N2, K2, f0_2, f1_2, f2_2, f3_2, f4_2, f5_2⟩
  refine own_retVW X2 hS hk2 rfl hx hlk hP hrt (hb hby own_dinit_13) (by decide) (by decide) ?_
  exact hfin
theorem own_dallows_0 : decode prog_6_method_9_code 0 = .ok (.iload_n 1, 1) := by decide +kernel
theorem own_dallows_1 : decode prog_6_method_9_code 1 = .ok (.i2l, 1) := by decide +kernel
theorem own_dallows_2 : decode prog_6_method_9_code 2 = .ok (.ldc2_w 83, 3) := by decide +kernel
theorem own_dallows_5 : decode prog_6_method_9_code 5 = .ok (.lmul, 1) := by decide +kernel
theorem own_dallows_6 : decode prog_6_method_9_code 6 = .ok (.aload_n 0, 1) := by decide +kernel
theorem own_dallows_7 : decode prog_6_method_9_code 7 = .ok (.getfield 61, 3) := by decide +kernel
theorem own_dallows_10 : decode prog_6_method_9_code 10 = .ok (.i2l, 1) := by decide +kernel
theorem own_dallows_11 : decode prog_6_method_9_code 11 = .ok (.iload_n 2, 1) := by decide +kernel
theorem own_dallows_12 : decode prog_6_method_9_code 12 = .ok (.i2l, 1) := by decide +kernel
theorem own_dallows_13 : decode prog_6_method_9_code 13 = .ok (.lmul, 1) := by decide +kernel
theorem own_dallows_14 : decode prog_6_method_9_code 14 = .ok (.lcmp, 1) := by decide +kernel
theorem own_dallows_15 : decode prog_6_method_9_code 15 = .ok (.ifCond .ge 7, 3) := by decide +kernel
theorem own_dallows_18 : decode prog_6_method_9_code 18 = .ok (.iconst 1, 1) := by decide +kernel
theorem own_dallows_19 : decode prog_6_method_9_code 19 = .ok (.goto 4, 3) := by decide +kernel
theorem own_dallows_23 : decode prog_6_method_9_code 23 = .ok (.ireturn, 1) := by decide +kernel
theorem own_dallows_22 : decode prog_6_method_9_code 22 = .ok (.iconst 0, 1) := by decide +kernel
theorem own_efallows (m : MethodId) (o0 : Addr) (p1 : Int32) (p2 : Int32) : entryFrame m #[(.ref o0), (.int p1), (.int p2)] 3 = mkF m 0 #[.val (.ref o0), .val (.int p1), .val (.int p2)] [] := by first | (simp [entryFrame, mkF, argsToLocals, Value.category]; done) | rfl
def own_fallows (p1 : Int32) (p2 : Int32) (w_o0_percent : Int32) : Int32 := (if ((p1.toInt64) * (100 : Int64)) < ((w_o0_percent.toInt64) * (p2.toInt64)) then (1 : Int32) else (0 : Int32))
set_option maxRecDepth 65536 in
set_option maxHeartbeats 40000000 in
theorem own_mallows (l : Launch) (Z : State) (a0 : Array Value) (hw : ∀ d ∈ tables_1, d.before a0 Z = true) (ws : List Jvm.Cond) (o0 : Addr) (p1 : Int32) (p2 : Int32) (w_o0_percent : Int32) (h0 : Heap) (n0 : Nat) (Z0 : n0 ≤ h0.size) (F_o0_percent : Fld Z h0 o0 "com/example/fenliu/fenliu/Ejection" "percent" "I" (.int w_o0_percent)) :
    own_Met l Z (⟨"com/example/fenliu/fenliu/Ejection", "allowsAnother", "(II)Z"⟩ : MethodName) prog_6_method_9_code 3 (some .boolean) ws ({ frames := 0, cells := 0, slots := 0, locals := 0 } : Room) #[(.ref o0), (.int p1), (.int p2)] h0 (fun (v : Option Value) (h : Heap) (L : List Loc) => v = some (.int (own_fallows p1 p2 w_o0_percent)) ∧ Fr n0 L ∧ h = h0) := by
  refine own_enter (plainFor_of_name own_pn_com_example_fenliu_fenliu_Ejection) ?_
  intro p e s m below meth c s₁ P hx hby hml hrt hlk hown hnm hZ X0 e0 hP
  have N0 := Fr.nil n0
  have K0 := Keep.refl h0 []
  have hml' : c.maxLocals = 3 := hml
  refine own_cast (own_efallows m o0 p1 p2) ?_
  show own_End p e below P (s₁.setTop (mkF m 0 #[.val (.ref o0), .val (.int p1), .val (.int p2)] []))
  refine own_st (fun _ => XS.iloadN X0.here hx rfl (hb hby own_dallows_0) rfl) ?_
  show own_End p e below P (s₁.setTop (mkF m 1 #[.val (.ref o0), .val (.int p1), .val (.int p2)] [(.int p1)]))
  refine own_st (fun _ => XS.i2l X0.here hx rfl (hb hby own_dallows_1) rfl) ?_
  show own_End p e below P (s₁.setTop (mkF m 2 #[.val (.ref o0), .val (.int p1), .val (.int p2)] [(.long (p1.toInt64))]))
  refine own_st (fun _ => X0.ldc2Long hx hown (mvT hZ (hw _ (List.mem_of_getElem? (i := 61) rfl))) (g := (mkF m 2 #[.val (.ref o0), .val (.int p1), .val (.int p2)] [(.long (p1.toInt64))])) rfl (hb hby own_dallows_2) _) ?_
  show own_End p e below P (s₁.setTop (mkF m 5 #[.val (.ref o0), .val (.int p1), .val (.int p2)] [(.long (100 : Int64)), (.long (p1.toInt64))]))
  refine own_st (fun _ => XS.lmul X0.here hx rfl (hb hby own_dallows_5) rfl) ?_
  show own_End p e below P (s₁.setTop (mkF m 6 #[.val (.ref o0), .val (.int p1), .val (.int p2)] [(.long ((p1.toInt64) * (100 : Int64)))]))
  refine own_st (fun _ => XS.aloadN X0.here hx rfl (hb hby own_dallows_6) rfl rfl) ?_
  show own_End p e below P (s₁.setTop (mkF m 7 #[.val (.ref o0), .val (.int p1), .val (.int p2)] [(.ref o0), (.long ((p1.toInt64) * (100 : Int64)))]))
  obtain ⟨T1, X1, e1, st1⟩ := getF X0 hx hZ hown (host := "") (Or.inl (hw _ (List.mem_of_getElem? (i := 45) rfl))) Via.refl e0 F_o0_percent (g := (mkF m 7 #[.val (.ref o0), .val (.int p1), .val (.int p2)] [(.ref o0), (.long ((p1.toInt64) * (100 : Int64)))])) rfl rfl (hb hby own_dallows_7)
  refine own_st (fun _ => st1 _) ?_
  show own_End p e below P (T1.setTop (mkF m 10 #[.val (.ref o0), .val (.int p1), .val (.int p2)] [(.int w_o0_percent), (.long ((p1.toInt64) * (100 : Int64)))]))
  refine own_st (fun _ => XS.i2l X1.here hx rfl (hb hby own_dallows_10) rfl) ?_
  show own_End p e below P (T1.setTop (mkF m 11 #[.val (.ref o0), .val (.int p1), .val (.int p2)] [(.long (w_o0_percent.toInt64)), (.long ((p1.toInt64) * (100 : Int64)))]))
  refine own_st (fun _ => XS.iloadN X1.here hx rfl (hb hby own_dallows_11) rfl) ?_
  show own_End p e below P (T1.setTop (mkF m 12 #[.val (.ref o0), .val (.int p1), .val (.int p2)] [(.int p2), (.long (w_o0_percent.toInt64)), (.long ((p1.toInt64) * (100 : Int64)))]))
  refine own_st (fun _ => XS.i2l X1.here hx rfl (hb hby own_dallows_12) rfl) ?_
  show own_End p e below P (T1.setTop (mkF m 13 #[.val (.ref o0), .val (.int p1), .val (.int p2)] [(.long (p2.toInt64)), (.long (w_o0_percent.toInt64)), (.long ((p1.toInt64) * (100 : Int64)))]))
  refine own_st (fun _ => XS.lmul X1.here hx rfl (hb hby own_dallows_13) rfl) ?_
  show own_End p e below P (T1.setTop (mkF m 14 #[.val (.ref o0), .val (.int p1), .val (.int p2)] [(.long ((w_o0_percent.toInt64) * (p2.toInt64))), (.long ((p1.toInt64) * (100 : Int64)))]))
  refine own_st (fun _ => XS.lcmp X1.here hx rfl (hb hby own_dallows_14) rfl) ?_
  show own_End p e below P (T1.setTop (mkF m 15 #[.val (.ref o0), .val (.int p1), .val (.int p2)] [(.int (lcmpW ((p1.toInt64) * (100 : Int64)) ((w_o0_percent.toInt64) * (p2.toInt64))))]))
  by_cases hc2 : ((p1.toInt64) * (100 : Int64)) < ((w_o0_percent.toInt64) * (p2.toInt64))
  · refine own_st (fun _ => XS.ifNo X1.here hx rfl (hb hby own_dallows_15) rfl ((if0 _ _).trans (tlt (own_lt.mpr hc2)).2.1)) ?_
    show own_End p e below P (T1.setTop (mkF m 18 #[.val (.ref o0), .val (.int p1), .val (.int p2)] []))
    refine own_st (fun _ => XS.iconst X1.here hx rfl (hb hby own_dallows_18)) ?_
    show own_End p e below P (T1.setTop (mkF m 19 #[.val (.ref o0), .val (.int p1), .val (.int p2)] [(.int (1 : Int32))]))
    refine own_st (fun _ => XS.goto X1.here hx rfl (pc0 := 19) (pc' := 23) rfl (hb hby own_dallows_19) (by decide) (by decide)) ?_
    show own_End p e below P (T1.setTop (mkF m 23 #[.val (.ref o0), .val (.int p1), .val (.int p2)] [(.int (1 : Int32))]))
    refine own_retN X1 hx hlk hP (t := .boolean) (by simp) hrt (hb hby own_dallows_23) (by decide) (by decide) ⟨congrArg (fun z => some (Value.int z)) ?_, N0, e1⟩
    exact (show own_fallows p1 p2 w_o0_percent = (1 : Int32) from (if_pos hc2).trans (rfl)).symm
  · refine own_st (fun _ => XS.ifYes X1.here hx rfl (pc0 := 15) (pc' := 22) rfl (hb hby own_dallows_15) rfl ((if0 _ _).trans (flt (mt own_lt.mp hc2)).2.1) (by decide) (by decide)) ?_
    show own_End p e below P (T1.setTop (mkF m 22 #[.val (.ref o0), .val (.int p1), .val (.int p2)] []))
    refine own_st (fun _ => XS.iconst X1.here hx rfl (hb hby own_dallows_22)) ?_
    show own_End p e below P (T1.setTop (mkF m 23 #[.val (.ref o0), .val (.int p1), .val (.int p2)] [(.int (0 : Int32))]))
    refine own_retN X1 hx hlk hP (t := .boolean) (by simp) hrt (hb hby own_dallows_23) (by decide) (by decide) ⟨congrArg (fun z => some (Value.int z)) ?_, N0, e1⟩
    exact (show own_fallows p1 p2 w_o0_percent = (0 : Int32) from (if_neg hc2).trans (rfl)).symm
theorem own_pc (p : Int32) : 0 ≤ ((p &&& (2147483647 : Int32)) % (101 : Int32)).toInt ∧ ((p &&& (2147483647 : Int32)) % (101 : Int32)).toInt ≤ 100 := by
  have e := Jvm.Kit.i32_mask p 2147483647 (k := 31) (by decide) (by decide)
  have t : (101 : Int32).toInt = 101 := by decide
  rw [Jvm.Kit.i32_rem_nonneg (by rw [e]; omega), t]; omega
theorem own_nn (p : Int32) : 0 ≤ (p &&& (2147483647 : Int32)).toInt := by
  rw [Jvm.Kit.i32_mask p 2147483647 (k := 31) (by decide) (by decide)]; omega
theorem own_rn (p : Int32) : ¬ (((p &&& (255 : Int32)) + (1 : Int32)) < (1 : Int32)) := by
  have e := Jvm.Kit.i32_mask p 255 (k := 8) (by decide) (by decide)
  have o : (1 : Int32).toInt = 1 := by decide
  rw [Int32.lt_iff_toInt_lt, Jvm.Kit.i32_add (by rw [e, o]; omega) (by rw [e, o]; omega), e, o]; omega
theorem own_plain {e n k v : Int32} (hk : 0 ≤ k.toInt ∧ k.toInt ≤ 100) (he : 0 ≤ e.toInt) (hn : 0 ≤ n.toInt) (h : v = if (e.toInt64) < ((((k.toInt64) * (n.toInt64)) + (99 : Int64)) / (100 : Int64)) then (1 : Int32) else (0 : Int32)) : own_fallows e n k = v := by
  subst h
  show (if ((e.toInt64) * (100 : Int64)) < ((k.toInt64) * (n.toInt64)) then (1 : Int32) else (0 : Int32)) = _
  have e1 := Jvm.Kit.i64_of_i32 e
  have e2 := Jvm.Kit.i64_of_i32 n
  have e3 := Jvm.Kit.i64_of_i32 k
  have c1 : (100 : Int64).toInt = 100 := by decide
  have c2 : (99 : Int64).toInt = 99 := by decide
  have b1 := Int32.toInt_lt e
  have b2 := Int32.toInt_lt n
  have m1 : 0 ≤ k.toInt * n.toInt := Int.mul_nonneg hk.1 hn
  have m2 : k.toInt * n.toInt ≤ 100 * n.toInt := Int.mul_le_mul_of_nonneg_right hk.2 hn
  have f1 : ((e.toInt64) * (100 : Int64)).toInt = e.toInt * 100 := by rw [Jvm.Kit.i64_mul (by rw [e1, c1]; omega) (by rw [e1, c1]; omega), e1, c1]
  have f2 : ((k.toInt64) * (n.toInt64)).toInt = k.toInt * n.toInt := by rw [Jvm.Kit.i64_mul (by rw [e3, e2]; omega) (by rw [e3, e2]; omega), e3, e2]
  have f3 : (((k.toInt64) * (n.toInt64)) + (99 : Int64)).toInt = k.toInt * n.toInt + 99 := by rw [Jvm.Kit.i64_add (by rw [f2, c2]; omega) (by rw [f2, c2]; omega), f2, c2]
  have f4 : ((((k.toInt64) * (n.toInt64)) + (99 : Int64)) / (100 : Int64)).toInt = (k.toInt * n.toInt + 99) / 100 := by
    rw [Jvm.Kit.i64_div (by rw [c1]; omega), f3, c1, Int.tdiv_eq_ediv_of_nonneg (by omega)]
  have q1 : ((e.toInt64) * (100 : Int64)) < ((k.toInt64) * (n.toInt64)) ↔ e.toInt * 100 < k.toInt * n.toInt := by rw [Int64.lt_iff_toInt_lt, f1, f2]
  have q2 : (e.toInt64) < ((((k.toInt64) * (n.toInt64)) + (99 : Int64)) / (100 : Int64)) ↔ e.toInt < (k.toInt * n.toInt + 99) / 100 := by rw [Int64.lt_iff_toInt_lt, e1, f4]
  simp only [q1, q2]
  generalize k.toInt * n.toInt = w at *
  by_cases z : e.toInt * 100 < w
  · rw [if_pos z, if_pos (by omega)]
  · rw [if_neg z, if_neg (by omega)]
theorem own_pd_IJJI_V_461 : parseMethodDescriptor "(IJJI)V" = some ⟨[.int, .long, .long, .int], none⟩ := by decide +kernel
theorem own_pd_II_Z_317 : parseMethodDescriptor "(II)Z" = some ⟨[.int, .int], some .boolean⟩ := by decide +kernel
theorem own_ef0 (m : MethodId) (p0 : Int32) (p1 : Int32) (p2 : Int32) (p3 : Int32) : entryFrame m #[(.int p0), (.int p1), (.int p2), (.int p3)] maxLocals = mkF m 0 #[.val (.int p0), .val (.int p1), .val (.int p2), .val (.int p3), .unset, .unset, .unset, .unset, .unset, .unset, .unset, .unset, .unset] [] := by first | (simp [entryFrame, mkF, argsToLocals, Value.category, maxLocals]; done) | rfl
theorem own_pn_com_example_fenliu_fenliu_EjectionAllowsAnotherPinLaw : plainName "com/example/fenliu/fenliu/EjectionAllowsAnotherPinLaw" = true := by first | (simp [plainName, overriddenIn]; done) | decide +kernel
set_option maxRecDepth 65536 in
set_option maxHeartbeats 40000000 in
theorem own_m0 (l : Launch) (Z : State) (a0 : Array Value) (hw : ∀ d ∈ tables_1, d.before a0 Z = true) (ws : List Jvm.Cond) (p0 : Int32) (p1 : Int32) (p2 : Int32) (p3 : Int32) (s_Clock_SystemInstantSource_INSTANCE : Addr) (h0 : Heap) (n0 : Nat) (Z0 : n0 ≤ h0.size) (E_s_Clock_SystemInstantSource_INSTANCE : Exa Z h0 s_Clock_SystemInstantSource_INSTANCE "java/time/Clock$SystemInstantSource") (S_Clock_SystemInstantSource_INSTANCE : Sta Z h0 "java/time/Clock$SystemInstantSource" "INSTANCE" "Ljava/time/Clock$SystemInstantSource;" (.ref s_Clock_SystemInstantSource_INSTANCE)) :
    own_MetW l Z x code maxLocals ret ws room_1 #[(.int p0), (.int p1), (.int p2), (.int p3)] h0 (fun (v : Option Value) (h : Heap) (L : List Loc) => v = some (.int 1) ∧ Fr n0 L) := by
  refine own_enterW (plainFor_of_name own_pn_com_example_fenliu_fenliu_EjectionAllowsAnotherPinLaw) ?_
  intro p e s m below meth c s₁ P vm0 k0 hx hby hml hrt hlk hown hnm hZ X0 e0 hS hk hP
  have N0 := Fr.nil n0
  have K0 := Keep.refl h0 []
  have hml' : c.maxLocals = 13 := hml
  refine own_cast (own_ef0 m p0 p1 p2 p3) ?_
  show own_End p e below P (s₁.setTop (mkF m 0 #[.val (.int p0), .val (.int p1), .val (.int p2), .val (.int p3), .unset, .unset, .unset, .unset, .unset, .unset, .unset, .unset, .unset] []))
  refine own_st (fun _ => XS.iloadN X0.here hx rfl (hb hby at_0) rfl) ?_
  show own_End p e below P (s₁.setTop (mkF m 1 #[.val (.int p0), .val (.int p1), .val (.int p2), .val (.int p3), .unset, .unset, .unset, .unset, .unset, .unset, .unset, .unset, .unset] [(.int p0)]))
  refine own_st (fun _ => X0.ldcInt hx hown (mvT hZ (hw _ (List.mem_of_getElem? (i := 0) rfl))) (g := (mkF m 1 #[.val (.int p0), .val (.int p1), .val (.int p2), .val (.int p3), .unset, .unset, .unset, .unset, .unset, .unset, .unset, .unset, .unset] [(.int p0)])) rfl (hb hby at_1) _) ?_
  show own_End p e below P (s₁.setTop (mkF m 3 #[.val (.int p0), .val (.int p1), .val (.int p2), .val (.int p3), .unset, .unset, .unset, .unset, .unset, .unset, .unset, .unset, .unset] [(.int (2147483647 : Int32)), (.int p0)]))
  refine own_st (fun _ => XS.iand X0.here hx rfl (hb hby at_3) rfl) ?_
  show own_End p e below P (s₁.setTop (mkF m 4 #[.val (.int p0), .val (.int p1), .val (.int p2), .val (.int p3), .unset, .unset, .unset, .unset, .unset, .unset, .unset, .unset, .unset] [(.int (p0 &&& (2147483647 : Int32)))]))
  refine own_st (fun _ => XS.bipush X0.here hx rfl (hb hby at_4)) ?_
  show own_End p e below P (s₁.setTop (mkF m 6 #[.val (.int p0), .val (.int p1), .val (.int p2), .val (.int p3), .unset, .unset, .unset, .unset, .unset, .unset, .unset, .unset, .unset] [(.int (101 : Int32)), (.int (p0 &&& (2147483647 : Int32)))]))
  refine own_st (fun _ => iremM X0 hx rfl (hb hby at_6) rfl (by decide)) ?_
  show own_End p e below P (s₁.setTop (mkF m 7 #[.val (.int p0), .val (.int p1), .val (.int p2), .val (.int p3), .unset, .unset, .unset, .unset, .unset, .unset, .unset, .unset, .unset] [(.int ((p0 &&& (2147483647 : Int32)) % (101 : Int32)))]))
  obtain ⟨pc, e_pc⟩ : ∃ z : Int32, z = ((p0 &&& (2147483647 : Int32)) % (101 : Int32)) := ⟨_, rfl⟩
  have hpc := own_pc p0
  rw [← e_pc] at hpc ⊢
  show own_End p e below P (s₁.setTop (mkF m 7 #[.val (.int p0), .val (.int p1), .val (.int p2), .val (.int p3), .unset, .unset, .unset, .unset, .unset, .unset, .unset, .unset, .unset] [(.int pc)]))
  refine own_st (fun _ => XS.istore X0.here hx rfl (hb hby at_7) rfl (l' := #[.val (.int p0), .val (.int p1), .val (.int p2), .val (.int p3), .val (.int pc), .unset, .unset, .unset, .unset, .unset, .unset, .unset, .unset]) rfl) ?_
  show own_End p e below P (s₁.setTop (mkF m 9 #[.val (.int p0), .val (.int p1), .val (.int p2), .val (.int p3), .val (.int pc), .unset, .unset, .unset, .unset, .unset, .unset, .unset, .unset] []))
  refine own_st (fun _ => XS.iloadN X0.here hx rfl (hb hby at_9) rfl) ?_
  show own_End p e below P (s₁.setTop (mkF m 10 #[.val (.int p0), .val (.int p1), .val (.int p2), .val (.int p3), .val (.int pc), .unset, .unset, .unset, .unset, .unset, .unset, .unset, .unset] [(.int p1)]))
  refine own_st (fun _ => X0.ldcInt hx hown (mvT hZ (hw _ (List.mem_of_getElem? (i := 0) rfl))) (g := (mkF m 10 #[.val (.int p0), .val (.int p1), .val (.int p2), .val (.int p3), .val (.int pc), .unset, .unset, .unset, .unset, .unset, .unset, .unset, .unset] [(.int p1)])) rfl (hb hby at_10) _) ?_
  show own_End p e below P (s₁.setTop (mkF m 12 #[.val (.int p0), .val (.int p1), .val (.int p2), .val (.int p3), .val (.int pc), .unset, .unset, .unset, .unset, .unset, .unset, .unset, .unset] [(.int (2147483647 : Int32)), (.int p1)]))
  refine own_st (fun _ => XS.iand X0.here hx rfl (hb hby at_12) rfl) ?_
  show own_End p e below P (s₁.setTop (mkF m 13 #[.val (.int p0), .val (.int p1), .val (.int p2), .val (.int p3), .val (.int pc), .unset, .unset, .unset, .unset, .unset, .unset, .unset, .unset] [(.int (p1 &&& (2147483647 : Int32)))]))
  obtain ⟨ej, e_ej⟩ : ∃ z : Int32, z = (p1 &&& (2147483647 : Int32)) := ⟨_, rfl⟩
  have hej := own_nn p1
  rw [← e_ej] at hej ⊢
  show own_End p e below P (s₁.setTop (mkF m 13 #[.val (.int p0), .val (.int p1), .val (.int p2), .val (.int p3), .val (.int pc), .unset, .unset, .unset, .unset, .unset, .unset, .unset, .unset] [(.int ej)]))
  refine own_st (fun _ => XS.istore X0.here hx rfl (hb hby at_13) rfl (l' := #[.val (.int p0), .val (.int p1), .val (.int p2), .val (.int p3), .val (.int pc), .val (.int ej), .unset, .unset, .unset, .unset, .unset, .unset, .unset]) rfl) ?_
  show own_End p e below P (s₁.setTop (mkF m 15 #[.val (.int p0), .val (.int p1), .val (.int p2), .val (.int p3), .val (.int pc), .val (.int ej), .unset, .unset, .unset, .unset, .unset, .unset, .unset] []))
  refine own_st (fun _ => XS.iloadN X0.here hx rfl (hb hby at_15) rfl) ?_
  show own_End p e below P (s₁.setTop (mkF m 16 #[.val (.int p0), .val (.int p1), .val (.int p2), .val (.int p3), .val (.int pc), .val (.int ej), .unset, .unset, .unset, .unset, .unset, .unset, .unset] [(.int p2)]))
  refine own_st (fun _ => X0.ldcInt hx hown (mvT hZ (hw _ (List.mem_of_getElem? (i := 0) rfl))) (g := (mkF m 16 #[.val (.int p0), .val (.int p1), .val (.int p2), .val (.int p3), .val (.int pc), .val (.int ej), .unset, .unset, .unset, .unset, .unset, .unset, .unset] [(.int p2)])) rfl (hb hby at_16) _) ?_
  show own_End p e below P (s₁.setTop (mkF m 18 #[.val (.int p0), .val (.int p1), .val (.int p2), .val (.int p3), .val (.int pc), .val (.int ej), .unset, .unset, .unset, .unset, .unset, .unset, .unset] [(.int (2147483647 : Int32)), (.int p2)]))
  refine own_st (fun _ => XS.iand X0.here hx rfl (hb hby at_18) rfl) ?_
  show own_End p e below P (s₁.setTop (mkF m 19 #[.val (.int p0), .val (.int p1), .val (.int p2), .val (.int p3), .val (.int pc), .val (.int ej), .unset, .unset, .unset, .unset, .unset, .unset, .unset] [(.int (p2 &&& (2147483647 : Int32)))]))
  obtain ⟨li, e_li⟩ : ∃ z : Int32, z = (p2 &&& (2147483647 : Int32)) := ⟨_, rfl⟩
  have hli := own_nn p2
  rw [← e_li] at hli ⊢
  show own_End p e below P (s₁.setTop (mkF m 19 #[.val (.int p0), .val (.int p1), .val (.int p2), .val (.int p3), .val (.int pc), .val (.int ej), .unset, .unset, .unset, .unset, .unset, .unset, .unset] [(.int li)]))
  refine own_st (fun _ => XS.istore X0.here hx rfl (hb hby at_19) rfl (l' := #[.val (.int p0), .val (.int p1), .val (.int p2), .val (.int p3), .val (.int pc), .val (.int ej), .val (.int li), .unset, .unset, .unset, .unset, .unset, .unset]) rfl) ?_
  show own_End p e below P (s₁.setTop (mkF m 21 #[.val (.int p0), .val (.int p1), .val (.int p2), .val (.int p3), .val (.int pc), .val (.int ej), .val (.int li), .unset, .unset, .unset, .unset, .unset, .unset] []))
  refine own_st (fun _ => XS.iloadN X0.here hx rfl (hb hby at_21) rfl) ?_
  show own_End p e below P (s₁.setTop (mkF m 22 #[.val (.int p0), .val (.int p1), .val (.int p2), .val (.int p3), .val (.int pc), .val (.int ej), .val (.int li), .unset, .unset, .unset, .unset, .unset, .unset] [(.int p3)]))
  refine own_st (fun _ => XS.sipush X0.here hx rfl (hb hby at_22)) ?_
  show own_End p e below P (s₁.setTop (mkF m 25 #[.val (.int p0), .val (.int p1), .val (.int p2), .val (.int p3), .val (.int pc), .val (.int ej), .val (.int li), .unset, .unset, .unset, .unset, .unset, .unset] [(.int (255 : Int32)), (.int p3)]))
  refine own_st (fun _ => XS.iand X0.here hx rfl (hb hby at_25) rfl) ?_
  show own_End p e below P (s₁.setTop (mkF m 26 #[.val (.int p0), .val (.int p1), .val (.int p2), .val (.int p3), .val (.int pc), .val (.int ej), .val (.int li), .unset, .unset, .unset, .unset, .unset, .unset] [(.int (p3 &&& (255 : Int32)))]))
  refine own_st (fun _ => XS.iconst X0.here hx rfl (hb hby at_26)) ?_
  show own_End p e below P (s₁.setTop (mkF m 27 #[.val (.int p0), .val (.int p1), .val (.int p2), .val (.int p3), .val (.int pc), .val (.int ej), .val (.int li), .unset, .unset, .unset, .unset, .unset, .unset] [(.int (1 : Int32)), (.int (p3 &&& (255 : Int32)))]))
  refine own_st (fun _ => XS.iadd X0.here hx rfl (hb hby at_27) rfl) ?_
  show own_End p e below P (s₁.setTop (mkF m 28 #[.val (.int p0), .val (.int p1), .val (.int p2), .val (.int p3), .val (.int pc), .val (.int ej), .val (.int li), .unset, .unset, .unset, .unset, .unset, .unset] [(.int ((p3 &&& (255 : Int32)) + (1 : Int32)))]))
  obtain ⟨rn, e_rn⟩ : ∃ z : Int32, z = ((p3 &&& (255 : Int32)) + (1 : Int32)) := ⟨_, rfl⟩
  have hrn := own_rn p3
  rw [← e_rn] at hrn ⊢
  show own_End p e below P (s₁.setTop (mkF m 28 #[.val (.int p0), .val (.int p1), .val (.int p2), .val (.int p3), .val (.int pc), .val (.int ej), .val (.int li), .unset, .unset, .unset, .unset, .unset, .unset] [(.int rn)]))
  refine own_st (fun _ => XS.istore X0.here hx rfl (hb hby at_28) rfl (l' := #[.val (.int p0), .val (.int p1), .val (.int p2), .val (.int p3), .val (.int pc), .val (.int ej), .val (.int li), .val (.int rn), .unset, .unset, .unset, .unset, .unset]) rfl) ?_
  show own_End p e below P (s₁.setTop (mkF m 30 #[.val (.int p0), .val (.int p1), .val (.int p2), .val (.int p3), .val (.int pc), .val (.int ej), .val (.int li), .val (.int rn), .unset, .unset, .unset, .unset, .unset] []))
  obtain ⟨T1, h1, X1, e1, E1, A1, D1, -, st1⟩ := newO X0 hx hZ hown (hw _ (List.mem_of_getElem? (i := 1) rfl)) (hw _ (List.mem_of_getElem? (i := 2) rfl)) (hw _ (List.mem_of_getElem? (i := 3) rfl)) e0 (g := (mkF m 30 #[.val (.int p0), .val (.int p1), .val (.int p2), .val (.int p3), .val (.int pc), .val (.int ej), .val (.int li), .val (.int rn), .unset, .unset, .unset, .unset, .unset] [])) rfl (hb hby at_30) (by decide) (by decide)
  obtain ⟨b1, g1⟩ : ∃ z, z = h0.size := ⟨_, rfl⟩
  rw [← g1] at A1 D1 st1
  have ne2 : s_Clock_SystemInstantSource_INSTANCE ≠ b1 := Nat.ne_of_lt (Nat.lt_of_lt_of_le E_s_Clock_SystemInstantSource_INSTANCE.lt (Nat.le_of_eq g1.symm))
  have low_b1 : n0 ≤ b1 := Nat.le_trans (Nat.le_trans Z0 K0.1) (Nat.le_of_eq g1.symm)
  have sz_b1 : h0.size ≤ b1 := Nat.le_trans K0.1 (Nat.le_of_eq g1.symm)
  have K1 := Keep.ext K0 E1
  have F_b1_failures : Fld Z h1 b1 "com/example/fenliu/fenliu/Ejection" "failures" "I" (.int (0 : Int32)) := D1 (Or.inr (hw _ (List.mem_of_getElem? (i := 36) rfl))) (ty := .int) (by decide)
  have F_b1_base : Fld Z h1 b1 "com/example/fenliu/fenliu/Ejection" "base" "J" (.long (0 : Int64)) := D1 (Or.inr (hw _ (List.mem_of_getElem? (i := 38) rfl))) (ty := .long) (by decide)
  have F_b1_longest : Fld Z h1 b1 "com/example/fenliu/fenliu/Ejection" "longest" "J" (.long (0 : Int64)) := D1 (Or.inr (hw _ (List.mem_of_getElem? (i := 44) rfl))) (ty := .long) (by decide)
  have F_b1_percent : Fld Z h1 b1 "com/example/fenliu/fenliu/Ejection" "percent" "I" (.int (0 : Int32)) := D1 (Or.inr (hw _ (List.mem_of_getElem? (i := 46) rfl))) (ty := .int) (by decide)
  have F_b1_clock : Fld Z h1 b1 "com/example/fenliu/fenliu/Ejection" "clock" "Ljava/time/InstantSource;" .null := D1 (Or.inr (hw _ (List.mem_of_getElem? (i := 55) rfl))) (ty := (.object "java/time/InstantSource")) (by decide)
  refine own_st (fun _ => st1 _) ?_
  show own_End p e below P (T1.setTop (mkF m 33 #[.val (.int p0), .val (.int p1), .val (.int p2), .val (.int p3), .val (.int pc), .val (.int ej), .val (.int li), .val (.int rn), .unset, .unset, .unset, .unset, .unset] [(.ref b1)]))
  refine own_st (fun _ => XS.dup X1.here hx rfl (hb hby at_33) rfl rfl) ?_
  show own_End p e below P (T1.setTop (mkF m 34 #[.val (.int p0), .val (.int p1), .val (.int p2), .val (.int p3), .val (.int pc), .val (.int ej), .val (.int li), .val (.int rn), .unset, .unset, .unset, .unset, .unset] [(.ref b1), (.ref b1)]))
  refine own_st (fun _ => XS.iload X1.here hx rfl (hb hby at_34) rfl) ?_
  show own_End p e below P (T1.setTop (mkF m 36 #[.val (.int p0), .val (.int p1), .val (.int p2), .val (.int p3), .val (.int pc), .val (.int ej), .val (.int li), .val (.int rn), .unset, .unset, .unset, .unset, .unset] [(.int rn), (.ref b1), (.ref b1)]))
  refine own_st (fun _ => X1.ldc2Long hx hown (mvT hZ (hw _ (List.mem_of_getElem? (i := 4) rfl))) (g := (mkF m 36 #[.val (.int p0), .val (.int p1), .val (.int p2), .val (.int p3), .val (.int pc), .val (.int ej), .val (.int li), .val (.int rn), .unset, .unset, .unset, .unset, .unset] [(.int rn), (.ref b1), (.ref b1)])) rfl (hb hby at_36) _) ?_
  show own_End p e below P (T1.setTop (mkF m 39 #[.val (.int p0), .val (.int p1), .val (.int p2), .val (.int p3), .val (.int pc), .val (.int ej), .val (.int li), .val (.int rn), .unset, .unset, .unset, .unset, .unset] [(.long (30000 : Int64)), (.int rn), (.ref b1), (.ref b1)]))
  refine own_st (fun _ => X1.ldc2Long hx hown (mvT hZ (hw _ (List.mem_of_getElem? (i := 5) rfl))) (g := (mkF m 39 #[.val (.int p0), .val (.int p1), .val (.int p2), .val (.int p3), .val (.int pc), .val (.int ej), .val (.int li), .val (.int rn), .unset, .unset, .unset, .unset, .unset] [(.long (30000 : Int64)), (.int rn), (.ref b1), (.ref b1)])) rfl (hb hby at_39) _) ?_
  show own_End p e below P (T1.setTop (mkF m 42 #[.val (.int p0), .val (.int p1), .val (.int p2), .val (.int p3), .val (.int pc), .val (.int ej), .val (.int li), .val (.int rn), .unset, .unset, .unset, .unset, .unset] [(.long (300000 : Int64)), (.long (30000 : Int64)), (.int rn), (.ref b1), (.ref b1)]))
  refine own_st (fun _ => XS.iload X1.here hx rfl (hb hby at_42) rfl) ?_
  show own_End p e below P (T1.setTop (mkF m 44 #[.val (.int p0), .val (.int p1), .val (.int p2), .val (.int p3), .val (.int pc), .val (.int ej), .val (.int li), .val (.int rn), .unset, .unset, .unset, .unset, .unset] [(.int pc), (.long (300000 : Int64)), (.long (30000 : Int64)), (.int rn), (.ref b1), (.ref b1)]))
  have G4 := (E_s_Clock_SystemInstantSource_INSTANCE.ext E1)
  have G5 := (S_Clock_SystemInstantSource_INSTANCE.ext E1)
  have G6 := (Nat.le_trans hk E1.1)
  refine own_callIW X1 hS G6 hx hZ (y := (⟨"com/example/fenliu/fenliu/Ejection", "<init>", "(IJJI)V"⟩ : MethodName)) rfl hown (hw _ (List.mem_of_getElem? (i := 6) rfl)) (hw _ (List.mem_of_getElem? (i := 7) rfl)) (hw _ (List.mem_of_getElem? (i := 3) rfl)) (hw _ (List.mem_of_getElem? (i := 8) rfl)) (by decide) (own_minit l Z a0 hw [] b1 rn (30000 : Int64) (300000 : Int64) pc s_Clock_SystemInstantSource_INSTANCE h1 n0 (Nat.le_trans Z0 K1.1) A1 G4 F_b1_failures F_b1_base F_b1_longest F_b1_percent F_b1_clock G5 low_b1 hrn (by rw [Int32.lt_iff_toInt_lt]; have : (0 : Int32).toInt = 0 := (by decide); omega) (by rw [Int32.lt_iff_toInt_lt]; have : (100 : Int32).toInt = 100 := (by decide); omega) (by decide) (by decide) (by decide) (by decide)) 1 (by decide) (by decide) e1 (by decide) (by decide) (g := (mkF m 44 #[.val (.int p0), .val (.int p1), .val (.int p2), .val (.int p3), .val (.int pc), .val (.int ej), .val (.int li), .val (.int rn), .unset, .unset, .unset, .unset, .unset] [(.int pc), (.long (300000 : Int64)), (.long (30000 : Int64)), (.int rn), (.ref b1), (.ref b1)])) rfl (by rw [hml']; rfl) (a := b1) (argsL := [(.int rn), (.long (30000 : Int64)), (.long (300000 : Int64)), (.int pc)]) (rest := [(.ref b1)]) rfl (lenOf own_pd_IJJI_V_461 rfl) rfl (by show 2 * 0 + _ ≤ _; exact Nat.le_of_eq rfl) (hb hby at_44) (fun r3 T3 L3 X3 hQ3 hS hZ hown => ?_)
  obtain ⟨rfl, Nq3, Kq3, f0_3, f1_3, f2_3, f3_3, f4_3, f5_3⟩ := hQ3
  have N3 := Fr.app N0 Nq3
  have K3 := Keep.trans K1 Kq3 (allS (Or.inr sz_b1) all0)
  have hk3 : T3.heap.size ≤ T3.heap.size := Nat.le_refl _
  show own_End p e below P (T3.setTop (mkF m 47 #[.val (.int p0), .val (.int p1), .val (.int p2), .val (.int p3), .val (.int pc), .val (.int ej), .val (.int li), .val (.int rn), .unset, .unset, .unset, .unset, .unset] [(.ref b1)]))
  refine own_st (fun _ => XS.astore X3.here hx rfl (hb hby at_47) rfl rfl (l' := #[.val (.int p0), .val (.int p1), .val (.int p2), .val (.int p3), .val (.int pc), .val (.int ej), .val (.int li), .val (.int rn), .val (.ref b1), .unset, .unset, .unset, .unset]) rfl) ?_
  show own_End p e below P (T3.setTop (mkF m 49 #[.val (.int p0), .val (.int p1), .val (.int p2), .val (.int p3), .val (.int pc), .val (.int ej), .val (.int li), .val (.int rn), .val (.ref b1), .unset, .unset, .unset, .unset] []))
  refine own_st (fun _ => XS.aload X3.here hx rfl (hb hby at_49) rfl rfl) ?_
  show own_End p e below P (T3.setTop (mkF m 51 #[.val (.int p0), .val (.int p1), .val (.int p2), .val (.int p3), .val (.int pc), .val (.int ej), .val (.int li), .val (.int rn), .val (.ref b1), .unset, .unset, .unset, .unset] [(.ref b1)]))
  refine own_st (fun _ => XS.iload X3.here hx rfl (hb hby at_51) rfl) ?_
  show own_End p e below P (T3.setTop (mkF m 53 #[.val (.int p0), .val (.int p1), .val (.int p2), .val (.int p3), .val (.int pc), .val (.int ej), .val (.int li), .val (.int rn), .val (.ref b1), .unset, .unset, .unset, .unset] [(.int ej), (.ref b1)]))
  refine own_st (fun _ => XS.iload X3.here hx rfl (hb hby at_53) rfl) ?_
  show own_End p e below P (T3.setTop (mkF m 55 #[.val (.int p0), .val (.int p1), .val (.int p2), .val (.int p3), .val (.int pc), .val (.int ej), .val (.int li), .val (.int rn), .val (.ref b1), .unset, .unset, .unset, .unset] [(.int li), (.int ej), (.ref b1)]))
  refine own_callV X3 hx hZ (y := (⟨"com/example/fenliu/fenliu/Ejection", "allowsAnother", "(II)Z"⟩ : MethodName)) (z := (⟨"com/example/fenliu/fenliu/Ejection", "allowsAnother", "(II)Z"⟩ : MethodName)) hown (hw _ (List.mem_of_getElem? (i := 56) rfl)) (hw _ (List.mem_of_getElem? (i := 57) rfl)) (notFace_of_selects (args := #[]) (mvT hZ (hw _ (List.mem_of_getElem? (i := 59) rfl)))) (hw _ (List.mem_of_getElem? (i := 59) rfl)) (hw _ (List.mem_of_getElem? (i := 58) rfl)) (hw _ (List.mem_of_getElem? (i := 3) rfl)) (hw _ (List.mem_of_getElem? (i := 60) rfl)) (by decide) f0_3 (own_mallows l Z a0 hw [] b1 ej li pc T3.heap n0 (Nat.le_trans Z0 K3.1) f4_3) 0 (by decide) (by decide) rfl (by decide) (by decide) (g := (mkF m 55 #[.val (.int p0), .val (.int p1), .val (.int p2), .val (.int p3), .val (.int pc), .val (.int ej), .val (.int li), .val (.int rn), .val (.ref b1), .unset, .unset, .unset, .unset] [(.int li), (.int ej), (.ref b1)])) rfl (by rw [hml']; rfl) (argsL := [(.int ej), (.int li)]) (rest := []) rfl (lenOf own_pd_II_Z_317 rfl) rfl (by show 2 * 0 + _ ≤ _; exact Nat.le_of_eq rfl) (hb hby at_55) (fun r7 T7 L7 X7 hQ7 => ?_)
  obtain ⟨rfl, Nq7, eq7⟩ := hQ7
  have N7 := Fr.app N3 Nq7
  show own_End p e below P (T7.setTop (mkF m 58 #[.val (.int p0), .val (.int p1), .val (.int p2), .val (.int p3), .val (.int pc), .val (.int ej), .val (.int li), .val (.int rn), .val (.ref b1), .unset, .unset, .unset, .unset] [(.int (own_fallows ej li pc))]))
  refine own_st (fun _ => XS.istore X7.here hx rfl (hb hby at_58) rfl (l' := #[.val (.int p0), .val (.int p1), .val (.int p2), .val (.int p3), .val (.int pc), .val (.int ej), .val (.int li), .val (.int rn), .val (.ref b1), .val (.int (own_fallows ej li pc)), .unset, .unset, .unset]) rfl) ?_
  show own_End p e below P (T7.setTop (mkF m 60 #[.val (.int p0), .val (.int p1), .val (.int p2), .val (.int p3), .val (.int pc), .val (.int ej), .val (.int li), .val (.int rn), .val (.ref b1), .val (.int (own_fallows ej li pc)), .unset, .unset, .unset] []))
  refine own_st (fun _ => XS.iload X7.here hx rfl (hb hby at_60) rfl) ?_
  show own_End p e below P (T7.setTop (mkF m 62 #[.val (.int p0), .val (.int p1), .val (.int p2), .val (.int p3), .val (.int pc), .val (.int ej), .val (.int li), .val (.int rn), .val (.ref b1), .val (.int (own_fallows ej li pc)), .unset, .unset, .unset] [(.int pc)]))
  refine own_st (fun _ => XS.i2l X7.here hx rfl (hb hby at_62) rfl) ?_
  show own_End p e below P (T7.setTop (mkF m 63 #[.val (.int p0), .val (.int p1), .val (.int p2), .val (.int p3), .val (.int pc), .val (.int ej), .val (.int li), .val (.int rn), .val (.ref b1), .val (.int (own_fallows ej li pc)), .unset, .unset, .unset] [(.long (pc.toInt64))]))
  refine own_st (fun _ => XS.iload X7.here hx rfl (hb hby at_63) rfl) ?_
  show own_End p e below P (T7.setTop (mkF m 65 #[.val (.int p0), .val (.int p1), .val (.int p2), .val (.int p3), .val (.int pc), .val (.int ej), .val (.int li), .val (.int rn), .val (.ref b1), .val (.int (own_fallows ej li pc)), .unset, .unset, .unset] [(.int li), (.long (pc.toInt64))]))
  refine own_st (fun _ => XS.i2l X7.here hx rfl (hb hby at_65) rfl) ?_
  show own_End p e below P (T7.setTop (mkF m 66 #[.val (.int p0), .val (.int p1), .val (.int p2), .val (.int p3), .val (.int pc), .val (.int ej), .val (.int li), .val (.int rn), .val (.ref b1), .val (.int (own_fallows ej li pc)), .unset, .unset, .unset] [(.long (li.toInt64)), (.long (pc.toInt64))]))
  refine own_st (fun _ => XS.lmul X7.here hx rfl (hb hby at_66) rfl) ?_
  show own_End p e below P (T7.setTop (mkF m 67 #[.val (.int p0), .val (.int p1), .val (.int p2), .val (.int p3), .val (.int pc), .val (.int ej), .val (.int li), .val (.int rn), .val (.ref b1), .val (.int (own_fallows ej li pc)), .unset, .unset, .unset] [(.long ((pc.toInt64) * (li.toInt64)))]))
  refine own_st (fun _ => X7.ldc2Long hx hown (mvT hZ (hw _ (List.mem_of_getElem? (i := 62) rfl))) (g := (mkF m 67 #[.val (.int p0), .val (.int p1), .val (.int p2), .val (.int p3), .val (.int pc), .val (.int ej), .val (.int li), .val (.int rn), .val (.ref b1), .val (.int (own_fallows ej li pc)), .unset, .unset, .unset] [(.long ((pc.toInt64) * (li.toInt64)))])) rfl (hb hby at_67) _) ?_
  show own_End p e below P (T7.setTop (mkF m 70 #[.val (.int p0), .val (.int p1), .val (.int p2), .val (.int p3), .val (.int pc), .val (.int ej), .val (.int li), .val (.int rn), .val (.ref b1), .val (.int (own_fallows ej li pc)), .unset, .unset, .unset] [(.long (99 : Int64)), (.long ((pc.toInt64) * (li.toInt64)))]))
  refine own_st (fun _ => XS.ladd X7.here hx rfl (hb hby at_70) rfl) ?_
  show own_End p e below P (T7.setTop (mkF m 71 #[.val (.int p0), .val (.int p1), .val (.int p2), .val (.int p3), .val (.int pc), .val (.int ej), .val (.int li), .val (.int rn), .val (.ref b1), .val (.int (own_fallows ej li pc)), .unset, .unset, .unset] [(.long (((pc.toInt64) * (li.toInt64)) + (99 : Int64)))]))
  refine own_st (fun _ => X7.ldc2Long hx hown (mvT hZ (hw _ (List.mem_of_getElem? (i := 63) rfl))) (g := (mkF m 71 #[.val (.int p0), .val (.int p1), .val (.int p2), .val (.int p3), .val (.int pc), .val (.int ej), .val (.int li), .val (.int rn), .val (.ref b1), .val (.int (own_fallows ej li pc)), .unset, .unset, .unset] [(.long (((pc.toInt64) * (li.toInt64)) + (99 : Int64)))])) rfl (hb hby at_71) _) ?_
  show own_End p e below P (T7.setTop (mkF m 74 #[.val (.int p0), .val (.int p1), .val (.int p2), .val (.int p3), .val (.int pc), .val (.int ej), .val (.int li), .val (.int rn), .val (.ref b1), .val (.int (own_fallows ej li pc)), .unset, .unset, .unset] [(.long (100 : Int64)), (.long (((pc.toInt64) * (li.toInt64)) + (99 : Int64)))]))
  refine own_st (fun _ => XS.ldiv X7.here hx rfl (hb hby at_74) rfl (by decide)) ?_
  show own_End p e below P (T7.setTop (mkF m 75 #[.val (.int p0), .val (.int p1), .val (.int p2), .val (.int p3), .val (.int pc), .val (.int ej), .val (.int li), .val (.int rn), .val (.ref b1), .val (.int (own_fallows ej li pc)), .unset, .unset, .unset] [(.long ((((pc.toInt64) * (li.toInt64)) + (99 : Int64)) / (100 : Int64)))]))
  refine own_st (fun _ => XS.lstore X7.here hx rfl (hb hby at_75) rfl (l' := #[.val (.int p0), .val (.int p1), .val (.int p2), .val (.int p3), .val (.int pc), .val (.int ej), .val (.int li), .val (.int rn), .val (.ref b1), .val (.int (own_fallows ej li pc)), .val (.long ((((pc.toInt64) * (li.toInt64)) + (99 : Int64)) / (100 : Int64))), .second, .unset]) rfl) ?_
  show own_End p e below P (T7.setTop (mkF m 77 #[.val (.int p0), .val (.int p1), .val (.int p2), .val (.int p3), .val (.int pc), .val (.int ej), .val (.int li), .val (.int rn), .val (.ref b1), .val (.int (own_fallows ej li pc)), .val (.long ((((pc.toInt64) * (li.toInt64)) + (99 : Int64)) / (100 : Int64))), .second, .unset] []))
  refine own_st (fun _ => XS.iload X7.here hx rfl (hb hby at_77) rfl) ?_
  show own_End p e below P (T7.setTop (mkF m 79 #[.val (.int p0), .val (.int p1), .val (.int p2), .val (.int p3), .val (.int pc), .val (.int ej), .val (.int li), .val (.int rn), .val (.ref b1), .val (.int (own_fallows ej li pc)), .val (.long ((((pc.toInt64) * (li.toInt64)) + (99 : Int64)) / (100 : Int64))), .second, .unset] [(.int ej)]))
  refine own_st (fun _ => XS.i2l X7.here hx rfl (hb hby at_79) rfl) ?_
  show own_End p e below P (T7.setTop (mkF m 80 #[.val (.int p0), .val (.int p1), .val (.int p2), .val (.int p3), .val (.int pc), .val (.int ej), .val (.int li), .val (.int rn), .val (.ref b1), .val (.int (own_fallows ej li pc)), .val (.long ((((pc.toInt64) * (li.toInt64)) + (99 : Int64)) / (100 : Int64))), .second, .unset] [(.long (ej.toInt64))]))
  refine own_st (fun _ => XS.lload X7.here hx rfl (hb hby at_80) rfl) ?_
  show own_End p e below P (T7.setTop (mkF m 82 #[.val (.int p0), .val (.int p1), .val (.int p2), .val (.int p3), .val (.int pc), .val (.int ej), .val (.int li), .val (.int rn), .val (.ref b1), .val (.int (own_fallows ej li pc)), .val (.long ((((pc.toInt64) * (li.toInt64)) + (99 : Int64)) / (100 : Int64))), .second, .unset] [(.long ((((pc.toInt64) * (li.toInt64)) + (99 : Int64)) / (100 : Int64))), (.long (ej.toInt64))]))
  refine own_st (fun _ => XS.lcmp X7.here hx rfl (hb hby at_82) rfl) ?_
  show own_End p e below P (T7.setTop (mkF m 83 #[.val (.int p0), .val (.int p1), .val (.int p2), .val (.int p3), .val (.int pc), .val (.int ej), .val (.int li), .val (.int rn), .val (.ref b1), .val (.int (own_fallows ej li pc)), .val (.long ((((pc.toInt64) * (li.toInt64)) + (99 : Int64)) / (100 : Int64))), .second, .unset] [(.int (lcmpW (ej.toInt64) ((((pc.toInt64) * (li.toInt64)) + (99 : Int64)) / (100 : Int64))))]))
  have J10 : ∀ v9 : Int32, v9 = (if (ej.toInt64) < ((((pc.toInt64) * (li.toInt64)) + (99 : Int64)) / (100 : Int64)) then (1 : Int32) else (0 : Int32)) → own_End p e below P (T7.setTop (mkF m 91 #[.val (.int p0), .val (.int p1), .val (.int p2), .val (.int p3), .val (.int pc), .val (.int ej), .val (.int li), .val (.int rn), .val (.ref b1), .val (.int (own_fallows ej li pc)), .val (.long ((((pc.toInt64) * (li.toInt64)) + (99 : Int64)) / (100 : Int64))), .second, .unset] [(.int v9)])) := by
    intro v9 e_v9
    refine own_st (fun _ => XS.istore X7.here hx rfl (hb hby at_91) rfl (l' := #[.val (.int p0), .val (.int p1), .val (.int p2), .val (.int p3), .val (.int pc), .val (.int ej), .val (.int li), .val (.int rn), .val (.ref b1), .val (.int (own_fallows ej li pc)), .val (.long ((((pc.toInt64) * (li.toInt64)) + (99 : Int64)) / (100 : Int64))), .second, .val (.int v9)]) rfl) ?_
    show own_End p e below P (T7.setTop (mkF m 93 #[.val (.int p0), .val (.int p1), .val (.int p2), .val (.int p3), .val (.int pc), .val (.int ej), .val (.int li), .val (.int rn), .val (.ref b1), .val (.int (own_fallows ej li pc)), .val (.long ((((pc.toInt64) * (li.toInt64)) + (99 : Int64)) / (100 : Int64))), .second, .val (.int v9)] []))
    refine own_st (fun _ => XS.iload X7.here hx rfl (hb hby at_93) rfl) ?_
    show own_End p e below P (T7.setTop (mkF m 95 #[.val (.int p0), .val (.int p1), .val (.int p2), .val (.int p3), .val (.int pc), .val (.int ej), .val (.int li), .val (.int rn), .val (.ref b1), .val (.int (own_fallows ej li pc)), .val (.long ((((pc.toInt64) * (li.toInt64)) + (99 : Int64)) / (100 : Int64))), .second, .val (.int v9)] [(.int (own_fallows ej li pc))]))
    refine own_st (fun _ => XS.iload X7.here hx rfl (hb hby at_95) rfl) ?_
    show own_End p e below P (T7.setTop (mkF m 97 #[.val (.int p0), .val (.int p1), .val (.int p2), .val (.int p3), .val (.int pc), .val (.int ej), .val (.int li), .val (.int rn), .val (.ref b1), .val (.int (own_fallows ej li pc)), .val (.long ((((pc.toInt64) * (li.toInt64)) + (99 : Int64)) / (100 : Int64))), .second, .val (.int v9)] [(.int v9), (.int (own_fallows ej li pc))]))
    have hd11 : (own_fallows ej li pc) = v9 := by exact own_plain hpc hej hli e_v9
    refine own_st (fun _ => XS.icmpNo X7.here hx rfl (hb hby at_97) rfl (teq hd11).2) ?_
    show own_End p e below P (T7.setTop (mkF m 100 #[.val (.int p0), .val (.int p1), .val (.int p2), .val (.int p3), .val (.int pc), .val (.int ej), .val (.int li), .val (.int rn), .val (.ref b1), .val (.int (own_fallows ej li pc)), .val (.long ((((pc.toInt64) * (li.toInt64)) + (99 : Int64)) / (100 : Int64))), .second, .val (.int v9)] []))
    refine own_st (fun _ => XS.iconst X7.here hx rfl (hb hby at_100)) ?_
    show own_End p e below P (T7.setTop (mkF m 101 #[.val (.int p0), .val (.int p1), .val (.int p2), .val (.int p3), .val (.int pc), .val (.int ej), .val (.int li), .val (.int rn), .val (.ref b1), .val (.int (own_fallows ej li pc)), .val (.long ((((pc.toInt64) * (li.toInt64)) + (99 : Int64)) / (100 : Int64))), .second, .val (.int v9)] [(.int (1 : Int32))]))
    refine own_st (fun _ => XS.goto X7.here hx rfl (pc0 := 101) (pc' := 105) rfl (hb hby at_101) (by decide) (by decide)) ?_
    show own_End p e below P (T7.setTop (mkF m 105 #[.val (.int p0), .val (.int p1), .val (.int p2), .val (.int p3), .val (.int pc), .val (.int ej), .val (.int li), .val (.int rn), .val (.ref b1), .val (.int (own_fallows ej li pc)), .val (.long ((((pc.toInt64) * (li.toInt64)) + (99 : Int64)) / (100 : Int64))), .second, .val (.int v9)] [(.int (1 : Int32))]))
    exact own_retNW X7 hS hk3 eq7 hx hlk hP (t := .boolean) (by simp) hrt (hb hby at_105) (by decide) (by decide) ⟨rfl, N7⟩
  by_cases hc8 : (ej.toInt64) < ((((pc.toInt64) * (li.toInt64)) + (99 : Int64)) / (100 : Int64))
  · refine own_st (fun _ => XS.ifNo X7.here hx rfl (hb hby at_83) rfl ((if0 _ _).trans (tlt (own_lt.mpr hc8)).2.1)) ?_
    show own_End p e below P (T7.setTop (mkF m 86 #[.val (.int p0), .val (.int p1), .val (.int p2), .val (.int p3), .val (.int pc), .val (.int ej), .val (.int li), .val (.int rn), .val (.ref b1), .val (.int (own_fallows ej li pc)), .val (.long ((((pc.toInt64) * (li.toInt64)) + (99 : Int64)) / (100 : Int64))), .second, .unset] []))
    refine own_st (fun _ => XS.iconst X7.here hx rfl (hb hby at_86)) ?_
    show own_End p e below P (T7.setTop (mkF m 87 #[.val (.int p0), .val (.int p1), .val (.int p2), .val (.int p3), .val (.int pc), .val (.int ej), .val (.int li), .val (.int rn), .val (.ref b1), .val (.int (own_fallows ej li pc)), .val (.long ((((pc.toInt64) * (li.toInt64)) + (99 : Int64)) / (100 : Int64))), .second, .unset] [(.int (1 : Int32))]))
    refine own_st (fun _ => XS.goto X7.here hx rfl (pc0 := 87) (pc' := 91) rfl (hb hby at_87) (by decide) (by decide)) ?_
    show own_End p e below P (T7.setTop (mkF m 91 #[.val (.int p0), .val (.int p1), .val (.int p2), .val (.int p3), .val (.int pc), .val (.int ej), .val (.int li), .val (.int rn), .val (.ref b1), .val (.int (own_fallows ej li pc)), .val (.long ((((pc.toInt64) * (li.toInt64)) + (99 : Int64)) / (100 : Int64))), .second, .unset] [(.int (1 : Int32))]))
    exact J10 _ ((if_pos hc8).trans (rfl)).symm
  · refine own_st (fun _ => XS.ifYes X7.here hx rfl (pc0 := 83) (pc' := 90) rfl (hb hby at_83) rfl ((if0 _ _).trans (flt (mt own_lt.mp hc8)).2.1) (by decide) (by decide)) ?_
    show own_End p e below P (T7.setTop (mkF m 90 #[.val (.int p0), .val (.int p1), .val (.int p2), .val (.int p3), .val (.int pc), .val (.int ej), .val (.int li), .val (.int rn), .val (.ref b1), .val (.int (own_fallows ej li pc)), .val (.long ((((pc.toInt64) * (li.toInt64)) + (99 : Int64)) / (100 : Int64))), .second, .unset] []))
    refine own_st (fun _ => XS.iconst X7.here hx rfl (hb hby at_90)) ?_
    show own_End p e below P (T7.setTop (mkF m 91 #[.val (.int p0), .val (.int p1), .val (.int p2), .val (.int p3), .val (.int pc), .val (.int ej), .val (.int li), .val (.int rn), .val (.ref b1), .val (.int (own_fallows ej li pc)), .val (.long ((((pc.toInt64) * (li.toInt64)) + (99 : Int64)) / (100 : Int64))), .second, .unset] [(.int (0 : Int32))]))
    exact J10 _ ((if_neg hc8).trans (rfl)).symm
set_option maxRecDepth 65536 in
set_option maxHeartbeats 40000000 in
theorem comes_1 {Post : Tables → Env → Array Value → State → Outcome → State → Prop} (hpost : ∀ tb e args s v u, (limb_1_1.after args s (.returned v) u = true ∧ limb_1_2.after args s (.returned v) u = true ∧ True) → ReturnedEndW s (.returned v) u (Jvm.fieldLocs frame_1_writes args s ++ Jvm.arrayLocs frame_1_arrays args s ++ Jvm.staticLocs frame_1_statics s) 16 3200 → Post tb e args s (.returned v) u) :
    ArmFor flags0 classFile x code maxLocals ret World_1 tables_1 room_1 Calls_1 rest_1 Pre_1 Post := by
  intro l hfl _ _ p e ha hc hk s m args below hf hA hF happ hP
  obtain ⟨hcalls, hrest, hpre⟩ := hP
  obtain ⟨-, -, -, hnamed, -, -, -, hat⟩ := (Spec.applies_iff hf).mp happ
  obtain ⟨hg, hn⟩ := and_e (Cond.before_iff.mp (show (Jvm.Cond.and given_1 narrow_1).before args s = true from hpre))
  obtain ⟨k1, l1⟩ := and_e hg
  obtain ⟨k2, l2⟩ := and_e l1
  obtain ⟨k3, l3⟩ := and_e l2
  obtain ⟨k4, l4⟩ := and_e l3
  obtain ⟨w0, w1, w2, w3, rfl⟩ : ∃ w0 w1 w2 w3 : Value, args = #[w0, w1, w2, w3] := by
    have hs : args.size = 4 := by simpa [Cond.value, given_1] using k1
    obtain ⟨L⟩ := args
    match L, hs with
    | [w0, w1, w2, w3], _ => exact ⟨w0, w1, w2, w3, rfl⟩
  have hw := fun d (hd : d ∈ tables_1) => atoms_spec (ws := Jvm.Cond.code x code maxLocals ret :: tables_1) hat d (List.mem_cons_of_mem _ hd)
  have hfit : Fit s := fun {y c} hc i hi => by
    obtain ⟨ha, rfl⟩ := Array.getElem?_eq_some_iff.mp hc
    have q := List.all_eq_true.mp ((Array.all_eq_true_iff_forall_mem.mp hF) _ (Array.getElem_mem ha)) i (List.mem_range.mpr hi)
    simpa [Array.getElem?_eq_getElem hi] using q
  obtain ⟨hsets, hown0⟩ := atoms_of _ (rest_1_c_eq ▸ (show rest_1_c.before _ s = true from hrest))
  have hr0 := Cond.before_iff.mp hown0
  obtain ⟨i0, ei0⟩ := is_v k2
  obtain rfl : w0 = (.int i0) := Option.some.inj ei0
  obtain ⟨i1, ei1⟩ := is_v k3
  obtain rfl : w1 = (.int i1) := Option.some.inj ei1
  obtain ⟨i2, ei2⟩ := is_v k4
  obtain rfl : w2 = (.int i2) := Option.some.inj ei2
  obtain ⟨i3, ei3⟩ := is_v l4
  obtain rfl : w3 = (.int i3) := Option.some.inj ei3
  obtain ⟨bE, eb⟩ := exa_v (Cond.before_iff.mp (hsets _ (List.mem_of_getElem? (i := 2) rfl)))
  have S1 : Sta s s.heap "java/time/Clock$SystemInstantSource" "INSTANCE" "Ljava/time/Clock$SystemInstantSource;" (.ref bE) := Sta.start eb (Or.inl (hsets _ (List.mem_of_getElem? (i := 1) rfl)))
  have E1 : Exa s s.heap bE "java/time/Clock$SystemInstantSource" := Exa.start eb (Cond.before_iff.mp (hsets _ (List.mem_of_getElem? (i := 2) rfl)))
  obtain ⟨n, o, h1, h2, h3, _, L, rfl, ⟨rfl, N⟩, hq⟩ := own_m0 l s _ hw tables_1 i0 i1 i2 i3 bE s.heap s.heap.size (Nat.le_refl _) E1 S1 p e ha hc hk s m _ below hf ((Spec.applies_iff_loose hf).mp happ).1 ⟨rfl, State.Warmed39.refl s, rfl⟩ trivial
  refine ⟨n, _, h1, h2, h3, hpost _ _ _ _ _ _ ⟨Cond.after_iff.mpr rfl, Cond.after_iff.mpr (eq_i res_at (Term.int_eval (1)) rfl), trivial⟩ ⟨hq.1, hq.2.1, hq.2.2.1, (hq.2.2.2.sift fun y hy => Or.inr (N y hy)).mono (by decide) (by decide)⟩⟩
theorem main_1_1 : Claimed_1_1 := comes_1 fun _ _ _ _ _ _ h hF => ⟨h.1, hF⟩
theorem main_1_2 : Claimed_1_2 := comes_1 fun _ _ _ _ _ _ h hF => ⟨h.2.1, hF⟩
end Jvm.Pilot.@@N@@
namespace Jvm.Pilot.@@N@@
open Jvm Jvm.ClassFile Sem Op Lib Jvm.Free Jvm.Stand Jvm.Pilot.@@N@@.Jvm.D
/-! MADE BY PROGRAM (witnessworld.py) out of the Statement's table words and the real class files: 19 classes; the members and pool entries that the words name. The judged class is class 1, her method 1. -/
namespace start1
open Jvm.ClassFile
def u (s : String) : CpInfo := .utf8 (stringToUtf16 s)
/-- a pool by its gaps: so many unusable entries, then the entry; so many at the end -/
def gap : Nat → List CpInfo → List CpInfo
  | 0, r => r
  | n + 1, r => .unusable :: gap n r
def poolList (es : List (Nat × CpInfo)) (last : Nat) : List CpInfo := es.foldr (fun e r => gap e.1 (e.2 :: r)) (gap last [])
def pool (es : List (Nat × CpInfo)) (last : Nat) : Array CpInfo := ⟨poolList es last⟩
def fileOf (pool : Array CpInfo) (this : Nat) (attrs : Array Attribute := #[]) (ms : Array MethodInfo := #[]) (fl : Nat := 33) (sup : Nat := 0) (ifs : Array Nat := #[]) (fds : Array FieldInfo := #[]) : ClassFile where
  minorVersion := 0
  majorVersion := 65
  constantPool := pool
  accessFlags := fl
  thisClass := this
  superClass := sup
  interfaces := ifs
  fields := fds
  methods := ms
  attributes := attrs
def plain (name : String) (sup : Option ClassId) : Class where
  name := name
  kind := .ordinary
  loader := none
  accessFlags := 33
  super := sup
  interfaces := #[]
  cf := none
  fields := #[]
  methods := #[]
  instanceTypes := #[]
  staticTypes := #[]
  resolved := #[]
  callSites := []
  init := .initialized
  statics := none
  mirror := none

def pool0 : Array CpInfo := pool [(5, u "<init>"), (0, u "()V"), (1, .class_ 10), (1, u "java/lang/Object")] 113

def k0c0 : Code := { maxStack := 0, maxLocals := 1, code := object_method_1_code, exceptionTable := #[], attributes := #[] }
def k0m0 : Method := { name := "<init>", desc := "()V", sig := { parameters := [], returnType := none }, accessFlags := 1, code := some k0c0 }
/-- java/lang/Object -/
def k0 : Class := { plain "java/lang/Object" none with
  accessFlags := 33
  interfaces := #[]
  cf := some (fileOf pool0 8 #[] #[{ accessFlags := 1, nameIndex := 5, descriptorIndex := 6, attributes := #[] }] 33 0 #[] #[])
  fields := #[]
  methods := #[k0m0]
  instanceTypes := #[]
  staticTypes := #[]
  resolved := Array.replicate 124 none
  statics := none }

def pool1 : Array CpInfo := pool [(2, .class_ 4), (1, u "java/lang/Object"), (0, u "<init>"), (0, u "()V"), (0, .integer 2147483647), (0, .class_ 9), (0, u "com/example/fenliu/fenliu/Ejection"), (0, .long 30000), (1, .long 300000), (1, .methodref 8 15), (0, .nameAndType 5 16), (0, u "(IJJI)V"), (0, .methodref 8 18), (0, .nameAndType 19 20), (0, u "allowsAnother"), (0, u "(II)Z"), (0, .long 99), (1, .long 100), (1, .class_ 26), (0, u "com/example/fenliu/fenliu/EjectionAllowsAnotherPinLaw"), (2, u "law"), (0, u "(IIII)Z")] 3

def k1m0 : Method := { name := "<init>", desc := "()V", sig := { parameters := [], returnType := none }, accessFlags := 2, code := none }
def k1c1 : Code := { maxStack := 8, maxLocals := 13, code := code, exceptionTable := #[], attributes := #[] }
def k1m1 : Method := { name := "law", desc := "(IIII)Z", sig := { parameters := [.int, .int, .int, .int], returnType := some .boolean }, accessFlags := 9, code := some k1c1 }
/-- com/example/fenliu/fenliu/EjectionAllowsAnotherPinLaw -/
def k1 : Class := { plain "com/example/fenliu/fenliu/EjectionAllowsAnotherPinLaw" (some 0) with
  accessFlags := 49
  interfaces := #[]
  cf := some (fileOf pool1 25 #[] #[{ accessFlags := 2, nameIndex := 5, descriptorIndex := 6, attributes := #[] }, { accessFlags := 9, nameIndex := 29, descriptorIndex := 30, attributes := #[] }] 49 2 #[] #[])
  fields := #[]
  methods := #[k1m0, k1m1]
  instanceTypes := #[]
  staticTypes := #[]
  resolved := Array.replicate 34 none
  statics := none }

def pool2 : Array CpInfo := pool [(1, .interfaceMethodref 2 3), (0, .class_ 4), (0, .nameAndType 5 6), (0, u "java/time/InstantSource"), (0, u "system"), (0, u "()Ljava/time/InstantSource;"), (1, .class_ 10), (1, u "com/example/fenliu/fenliu/Ejection"), (0, u "<init>"), (4, .methodref 8 17), (0, .nameAndType 11 18), (0, u "(IJJILjava/time/InstantSource;)V"), (0, .methodref 20 21), (0, .class_ 22), (0, .nameAndType 11 23), (0, u "java/lang/Object"), (0, u "()V"), (9, .string 34), (0, u "a base ejection time"), (0, .methodref 36 37), (0, .class_ 38), (0, .nameAndType 39 40), (0, u "com/example/fenliu/fenliu/EpochMillis"), (0, u "checkedSpan"), (0, u "(Ljava/lang/String;JJ)J"), (0, .string 42), (0, u "a longest ejection time"), (1, .fieldref 8 45), (0, .nameAndType 46 47), (0, u "failures"), (0, u "I"), (0, .fieldref 8 49), (0, .nameAndType 50 51), (0, u "base"), (0, u "J"), (0, .methodref 53 54), (0, .class_ 55), (0, .nameAndType 56 57), (0, u "java/lang/Math"), (0, u "max"), (0, u "(JJ)J"), (0, .fieldref 8 59), (0, .nameAndType 60 51), (0, u "longest"), (0, .fieldref 8 62), (0, .nameAndType 63 47), (0, u "percent"), (0, .string 65), (0, u "clock"), (0, .methodref 67 68), (0, .class_ 69), (0, .nameAndType 70 71), (0, u "java/util/Objects"), (0, u "requireNonNull"), (0, u "(Ljava/lang/Object;Ljava/lang/String;)Ljava/lang/Object;"), (0, .fieldref 8 73), (0, .nameAndType 65 74), (0, u "Ljava/time/InstantSource;"), (8, .long 100), (6, u "NONE"), (0, u "Lcom/example/fenliu/fenliu/Ejection;"), (0, u "DEFAULT_FAILURES"), (2, u "DEFAULT_BASE"), (0, u "DEFAULT_LONGEST"), (0, u "DEFAULT_PERCENT"), (3, u "(IJJI)V"), (5, u "allowsAnother"), (0, u "(II)Z")] 22

def k2m0 : Method := { name := "<init>", desc := "()V", sig := { parameters := [], returnType := none }, accessFlags := 1, code := none }
def k2c1 : Code := { maxStack := 8, maxLocals := 7, code := prog_6_method_3_code, exceptionTable := #[], attributes := #[] }
def k2m1 : Method := { name := "<init>", desc := "(IJJI)V", sig := { parameters := [.int, .long, .long, .int], returnType := none }, accessFlags := 1, code := some k2c1 }
def k2c2 : Code := { maxStack := 5, maxLocals := 8, code := prog_6_method_4_code, exceptionTable := #[], attributes := #[] }
def k2m2 : Method := { name := "<init>", desc := "(IJJILjava/time/InstantSource;)V", sig := { parameters := [.int, .long, .long, .int, (.object "java/time/InstantSource")], returnType := none }, accessFlags := 1, code := some k2c2 }
def k2c3 : Code := { maxStack := 6, maxLocals := 3, code := prog_6_method_9_code, exceptionTable := #[], attributes := #[] }
def k2m3 : Method := { name := "allowsAnother", desc := "(II)Z", sig := { parameters := [.int, .int], returnType := some .boolean }, accessFlags := 0, code := some k2c3 }
/-- com/example/fenliu/fenliu/Ejection -/
def k2 : Class := { plain "com/example/fenliu/fenliu/Ejection" (some 0) with
  accessFlags := 49
  interfaces := #[]
  cf := some (fileOf pool2 8 #[] #[{ accessFlags := 1, nameIndex := 11, descriptorIndex := 23, attributes := #[] }, { accessFlags := 1, nameIndex := 11, descriptorIndex := 101, attributes := #[] }, { accessFlags := 1, nameIndex := 11, descriptorIndex := 18, attributes := #[] }, { accessFlags := 0, nameIndex := 107, descriptorIndex := 108, attributes := #[] }] 49 20 #[] #[{ accessFlags := 24, nameIndex := 90, descriptorIndex := 91, attributes := #[] }, { accessFlags := 26, nameIndex := 92, descriptorIndex := 47, attributes := #[] }, { accessFlags := 26, nameIndex := 95, descriptorIndex := 51, attributes := #[] }, { accessFlags := 26, nameIndex := 96, descriptorIndex := 51, attributes := #[] }, { accessFlags := 26, nameIndex := 97, descriptorIndex := 47, attributes := #[] }, { accessFlags := 18, nameIndex := 46, descriptorIndex := 47, attributes := #[] }, { accessFlags := 18, nameIndex := 50, descriptorIndex := 51, attributes := #[] }, { accessFlags := 18, nameIndex := 60, descriptorIndex := 51, attributes := #[] }, { accessFlags := 18, nameIndex := 63, descriptorIndex := 47, attributes := #[] }, { accessFlags := 18, nameIndex := 65, descriptorIndex := 74, attributes := #[] }])
  fields := #[{ name := "NONE", type := (.object "com/example/fenliu/fenliu/Ejection"), accessFlags := 24, slot := 0, constantValue := 0 }, { name := "DEFAULT_FAILURES", type := .int, accessFlags := 26, slot := 1, constantValue := 0 }, { name := "DEFAULT_BASE", type := .long, accessFlags := 26, slot := 2, constantValue := 0 }, { name := "DEFAULT_LONGEST", type := .long, accessFlags := 26, slot := 3, constantValue := 0 }, { name := "DEFAULT_PERCENT", type := .int, accessFlags := 26, slot := 4, constantValue := 0 }, { name := "failures", type := .int, accessFlags := 18, slot := 0, constantValue := 0 }, { name := "base", type := .long, accessFlags := 18, slot := 1, constantValue := 0 }, { name := "longest", type := .long, accessFlags := 18, slot := 2, constantValue := 0 }, { name := "percent", type := .int, accessFlags := 18, slot := 3, constantValue := 0 }, { name := "clock", type := (.object "java/time/InstantSource"), accessFlags := 18, slot := 4, constantValue := 0 }]
  methods := #[k2m0, k2m1, k2m2, k2m3]
  instanceTypes := #[.int, .long, .long, .int, (.object "java/time/InstantSource")]
  staticTypes := #[(.object "com/example/fenliu/fenliu/Ejection"), .int, .long, .long, .int]
  resolved := Array.replicate 131 none
  statics := none }

def pool3 : Array CpInfo := pool [(1, .fieldref 2 3), (0, .class_ 4), (0, .nameAndType 5 6), (0, u "java/time/Clock$SystemInstantSource"), (0, u "INSTANCE"), (0, u "Ljava/time/Clock$SystemInstantSource;"), (15, .class_ 24), (1, u "java/time/InstantSource"), (31, .class_ 57), (0, u "java/lang/Object"), (0, u "system"), (0, u "()Ljava/time/InstantSource;")] 20

def k3c0 : Code := { maxStack := 1, maxLocals := 0, code := jdk_2322_method_1_code, exceptionTable := #[], attributes := #[] }
def k3m0 : Method := { name := "system", desc := "()Ljava/time/InstantSource;", sig := { parameters := [], returnType := some (.object "java/time/InstantSource") }, accessFlags := 9, code := some k3c0 }
/-- java/time/InstantSource -/
def k3 : Class := { plain "java/time/InstantSource" (some 0) with
  accessFlags := 1537
  interfaces := #[]
  cf := some (fileOf pool3 22 #[] #[{ accessFlags := 9, nameIndex := 58, descriptorIndex := 59, attributes := #[] }] 1537 56 #[] #[])
  fields := #[]
  methods := #[k3m0]
  instanceTypes := #[]
  staticTypes := #[]
  resolved := Array.replicate 80 none
  statics := none }

def pool4 : Array CpInfo := pool [(1, .class_ 2), (0, u "java/io/Serializable"), (0, .class_ 4), (0, u "java/lang/Object")] 2

/-- java/io/Serializable -/
def k4 : Class := { plain "java/io/Serializable" (some 0) with
  accessFlags := 1537
  interfaces := #[]
  cf := some (fileOf pool4 1 #[] #[] 1537 3 #[] #[])
  fields := #[]
  methods := #[]
  instanceTypes := #[]
  staticTypes := #[]
  resolved := Array.replicate 7 none
  statics := none }

def pool5 : Array CpInfo := pool [(2, .class_ 4), (1, u "java/lang/Object"), (0, u "<init>"), (0, u "()V"), (1, .class_ 10), (1, u "java/time/Clock"), (12, .class_ 24), (0, u "java/time/Clock$SystemInstantSource"), (8, u "INSTANCE"), (0, u "Ljava/time/Clock$SystemInstantSource;"), (1, .class_ 37), (0, u "java/time/InstantSource"), (0, .class_ 39), (0, u "java/io/Serializable"), (0, u "serialVersionUID"), (0, u "J")] 28

def k5m0 : Method := { name := "<init>", desc := "()V", sig := { parameters := [], returnType := none }, accessFlags := 0, code := none }
/-- java/time/Clock$SystemInstantSource -/
def k5 : Class := { plain "java/time/Clock$SystemInstantSource" (some 0) with
  accessFlags := 48
  interfaces := #[3, 4]
  cf := some (fileOf pool5 23 #[.nestHost 8] #[{ accessFlags := 0, nameIndex := 5, descriptorIndex := 6, attributes := #[] }] 48 2 #[36, 38] #[{ accessFlags := 26, nameIndex := 40, descriptorIndex := 41, attributes := #[] }, { accessFlags := 24, nameIndex := 33, descriptorIndex := 34, attributes := #[] }])
  fields := #[{ name := "serialVersionUID", type := .long, accessFlags := 26, slot := 0, constantValue := 0 }, { name := "INSTANCE", type := (.object "java/time/Clock$SystemInstantSource"), accessFlags := 24, slot := 1, constantValue := 0 }]
  methods := #[k5m0]
  instanceTypes := #[]
  staticTypes := #[.long, (.object "java/time/Clock$SystemInstantSource")]
  resolved := Array.replicate 70 none
  statics := some 0 }

def pool6 : Array CpInfo := pool [(1, .class_ 2), (0, u "java/lang/Comparable"), (0, .class_ 4), (0, u "java/lang/Object")] 7

/-- java/lang/Comparable -/
def k6 : Class := { plain "java/lang/Comparable" (some 0) with
  accessFlags := 1537
  interfaces := #[]
  cf := some (fileOf pool6 1 #[] #[] 1537 3 #[] #[])
  fields := #[]
  methods := #[]
  instanceTypes := #[]
  staticTypes := #[]
  resolved := Array.replicate 12 none
  statics := none }

def pool7 : Array CpInfo := pool [(2, .class_ 4), (1, u "java/lang/CharSequence"), (42, .class_ 48), (0, u "java/lang/CharSequence$1CodePointIterator"), (10, .class_ 60), (0, u "java/lang/CharSequence$1CharIterator"), (5, .class_ 67), (0, u "java/lang/Object")] 63

/-- java/lang/CharSequence -/
def k7 : Class := { plain "java/lang/CharSequence" (some 0) with
  accessFlags := 1537
  interfaces := #[]
  cf := some (fileOf pool7 2 #[.nestMembers #[47, 59]] #[] 1537 66 #[] #[])
  fields := #[]
  methods := #[]
  instanceTypes := #[]
  staticTypes := #[]
  resolved := Array.replicate 131 none
  statics := none }

def pool8 : Array CpInfo := pool [(1, .class_ 2), (0, u "java/lang/constant/Constable"), (0, .class_ 4), (0, u "java/lang/Object")] 6

/-- java/lang/constant/Constable -/
def k8 : Class := { plain "java/lang/constant/Constable" (some 0) with
  accessFlags := 1537
  interfaces := #[]
  cf := some (fileOf pool8 1 #[] #[] 1537 3 #[] #[])
  fields := #[]
  methods := #[]
  instanceTypes := #[]
  staticTypes := #[]
  resolved := Array.replicate 11 none
  statics := none }

def pool9 : Array CpInfo := pool [(1, .class_ 2), (0, u "java/lang/constant/ConstantDesc"), (0, .class_ 4), (0, u "java/lang/Object")] 32

/-- java/lang/constant/ConstantDesc -/
def k9 : Class := { plain "java/lang/constant/ConstantDesc" (some 0) with
  accessFlags := 1537
  interfaces := #[]
  cf := some (fileOf pool9 1 #[] #[] 1537 3 #[] #[])
  fields := #[]
  methods := #[]
  instanceTypes := #[]
  staticTypes := #[]
  resolved := Array.replicate 37 none
  statics := none }

def pool10 : Array CpInfo := pool [(2, .class_ 4), (1, u "java/lang/Object"), (0, u "<init>"), (0, u "()V"), (3, .class_ 12), (1, u "java/lang/String"), (0, u "value"), (0, u "[B"), (2, u "coder"), (0, u "B"), (2, u "hash"), (0, u "I"), (2, u "hashIsZero"), (0, u "Z"), (13, u "COMPACT_STRINGS"), (534, .class_ 576), (0, u "java/lang/CharSequence"), (22, u "CASE_INSENSITIVE_ORDER"), (0, u "Ljava/util/Comparator;"), (500, u "serialPersistentFields"), (0, u "[Ljava/io/ObjectStreamField;"), (0, .class_ 1104), (0, u "java/lang/String$CaseInsensitiveComparator"), (1, .class_ 1107), (0, u "java/io/Serializable"), (0, .class_ 1109), (0, u "java/lang/Comparable"), (0, .class_ 1111), (0, u "java/lang/constant/Constable"), (0, .class_ 1113), (0, u "java/lang/constant/ConstantDesc"), (2, u "serialVersionUID"), (0, u "J"), (3, u "REPL"), (0, u "C"), (2, u "LATIN1"), (1, u "UTF16")] 323

def k10m0 : Method := { name := "<init>", desc := "()V", sig := { parameters := [], returnType := none }, accessFlags := 1, code := none }
/-- java/lang/String -/
def k10 : Class := { plain "java/lang/String" (some 0) with
  accessFlags := 49
  interfaces := #[4, 6, 7, 8, 9]
  cf := some (fileOf pool10 10 #[.nestMembers #[1103]] #[{ accessFlags := 1, nameIndex := 5, descriptorIndex := 6, attributes := #[] }] 49 2 #[1106, 1108, 575, 1110, 1112] #[{ accessFlags := 18, nameIndex := 13, descriptorIndex := 14, attributes := #[] }, { accessFlags := 18, nameIndex := 17, descriptorIndex := 18, attributes := #[] }, { accessFlags := 2, nameIndex := 21, descriptorIndex := 22, attributes := #[] }, { accessFlags := 2, nameIndex := 25, descriptorIndex := 26, attributes := #[] }, { accessFlags := 26, nameIndex := 1116, descriptorIndex := 1117, attributes := #[] }, { accessFlags := 24, nameIndex := 40, descriptorIndex := 26, attributes := #[] }, { accessFlags := 26, nameIndex := 1101, descriptorIndex := 1102, attributes := #[] }, { accessFlags := 26, nameIndex := 1121, descriptorIndex := 1122, attributes := #[] }, { accessFlags := 25, nameIndex := 599, descriptorIndex := 600, attributes := #[] }, { accessFlags := 24, nameIndex := 1125, descriptorIndex := 18, attributes := #[] }, { accessFlags := 24, nameIndex := 1127, descriptorIndex := 18, attributes := #[] }])
  fields := #[{ name := "value", type := (.array .byte), accessFlags := 18, slot := 0, constantValue := 0 }, { name := "coder", type := .byte, accessFlags := 18, slot := 1, constantValue := 0 }, { name := "hash", type := .int, accessFlags := 2, slot := 2, constantValue := 0 }, { name := "hashIsZero", type := .boolean, accessFlags := 2, slot := 3, constantValue := 0 }, { name := "serialVersionUID", type := .long, accessFlags := 26, slot := 0, constantValue := 0 }, { name := "COMPACT_STRINGS", type := .boolean, accessFlags := 24, slot := 1, constantValue := 0 }, { name := "serialPersistentFields", type := (.array (.object "java/io/ObjectStreamField")), accessFlags := 26, slot := 2, constantValue := 0 }, { name := "REPL", type := .char, accessFlags := 26, slot := 3, constantValue := 0 }, { name := "CASE_INSENSITIVE_ORDER", type := (.object "java/util/Comparator"), accessFlags := 25, slot := 4, constantValue := 0 }, { name := "LATIN1", type := .byte, accessFlags := 24, slot := 5, constantValue := 0 }, { name := "UTF16", type := .byte, accessFlags := 24, slot := 6, constantValue := 0 }]
  methods := #[k10m0]
  instanceTypes := #[(.array .byte), .byte, .int, .boolean]
  staticTypes := #[.long, .boolean, (.array (.object "java/io/ObjectStreamField")), .char, (.object "java/util/Comparator"), .byte, .byte]
  resolved := Array.replicate 1451 none
  statics := none }

def pool11 : Array CpInfo := pool [(2, .class_ 4), (1, u "java/lang/Object"), (0, u "<init>"), (0, u "()V"), (13, .class_ 22), (1, u "com/example/fenliu/fenliu/EpochMillis"), (4, u "EARLIEST"), (0, u "Ljava/time/Instant;"), (12, u "LATEST"), (10, .long 2147483647), (19, u "checkedSpan"), (0, u "(Ljava/lang/String;JJ)J")] 21

def k11m0 : Method := { name := "<init>", desc := "()V", sig := { parameters := [], returnType := none }, accessFlags := 2, code := none }
def k11c1 : Code := { maxStack := 7, maxLocals := 5, code := prog_8_method_4_code, exceptionTable := #[], attributes := #[] }
def k11m1 : Method := { name := "checkedSpan", desc := "(Ljava/lang/String;JJ)J", sig := { parameters := [(.object "java/lang/String"), .long, .long], returnType := some .long }, accessFlags := 8, code := some k11c1 }
/-- com/example/fenliu/fenliu/EpochMillis -/
def k11 : Class := { plain "com/example/fenliu/fenliu/EpochMillis" (some 0) with
  accessFlags := 48
  interfaces := #[]
  cf := some (fileOf pool11 20 #[] #[{ accessFlags := 2, nameIndex := 5, descriptorIndex := 6, attributes := #[] }, { accessFlags := 8, nameIndex := 72, descriptorIndex := 73, attributes := #[] }] 48 2 #[] #[{ accessFlags := 26, nameIndex := 27, descriptorIndex := 28, attributes := #[] }, { accessFlags := 26, nameIndex := 41, descriptorIndex := 28, attributes := #[] }])
  fields := #[{ name := "EARLIEST", type := (.object "java/time/Instant"), accessFlags := 26, slot := 0, constantValue := 0 }, { name := "LATEST", type := (.object "java/time/Instant"), accessFlags := 26, slot := 1, constantValue := 0 }]
  methods := #[k11m0, k11m1]
  instanceTypes := #[]
  staticTypes := #[(.object "java/time/Instant"), (.object "java/time/Instant")]
  resolved := Array.replicate 95 none
  statics := none }

def pool12 : Array CpInfo := pool [(1, .class_ 2), (0, u "java/lang/Math"), (1, .class_ 6), (1, u "java/lang/Object"), (0, u "<init>"), (0, u "()V"), (89, .class_ 100), (1, u "java/lang/Math$RandomNumberGeneratorHolder"), (20, u "(JJ)J"), (50, u "negativeZeroFloatBits"), (0, u "J"), (2, u "negativeZeroDoubleBits"), (21, u "max"), (46, u "$assertionsDisabled"), (0, u "Z"), (91, u "twoToTheDoubleScaleDown"), (0, u "D"), (4, u "twoToTheDoubleScaleUp"), (9, u "E"), (3, u "PI"), (2, u "TAU"), (2, u "DEGREES_TO_RADIANS"), (0, u "RADIANS_TO_DEGREES")] 94

def k12m0 : Method := { name := "<init>", desc := "()V", sig := { parameters := [], returnType := none }, accessFlags := 2, code := none }
def k12c1 : Code := { maxStack := 4, maxLocals := 4, code := jdk_29_method_66_code, exceptionTable := #[], attributes := #[] }
def k12m1 : Method := { name := "max", desc := "(JJ)J", sig := { parameters := [.long, .long], returnType := some .long }, accessFlags := 9, code := some k12c1 }
/-- java/lang/Math -/
def k12 : Class := { plain "java/lang/Math" (some 0) with
  accessFlags := 49
  interfaces := #[]
  cf := some (fileOf pool12 1 #[.nestMembers #[98]] #[{ accessFlags := 2, nameIndex := 7, descriptorIndex := 8, attributes := #[] }, { accessFlags := 9, nameIndex := 198, descriptorIndex := 121, attributes := #[] }] 49 4 #[] #[{ accessFlags := 25, nameIndex := 354, descriptorIndex := 339, attributes := #[] }, { accessFlags := 25, nameIndex := 358, descriptorIndex := 339, attributes := #[] }, { accessFlags := 25, nameIndex := 361, descriptorIndex := 339, attributes := #[] }, { accessFlags := 26, nameIndex := 364, descriptorIndex := 339, attributes := #[] }, { accessFlags := 26, nameIndex := 365, descriptorIndex := 339, attributes := #[] }, { accessFlags := 26, nameIndex := 172, descriptorIndex := 173, attributes := #[] }, { accessFlags := 26, nameIndex := 176, descriptorIndex := 173, attributes := #[] }, { accessFlags := 8, nameIndex := 344, descriptorIndex := 339, attributes := #[] }, { accessFlags := 8, nameIndex := 338, descriptorIndex := 339, attributes := #[] }, { accessFlags := 4120, nameIndex := 245, descriptorIndex := 246, attributes := #[] }])
  fields := #[{ name := "E", type := .double, accessFlags := 25, slot := 0, constantValue := 0 }, { name := "PI", type := .double, accessFlags := 25, slot := 1, constantValue := 0 }, { name := "TAU", type := .double, accessFlags := 25, slot := 2, constantValue := 0 }, { name := "DEGREES_TO_RADIANS", type := .double, accessFlags := 26, slot := 3, constantValue := 0 }, { name := "RADIANS_TO_DEGREES", type := .double, accessFlags := 26, slot := 4, constantValue := 0 }, { name := "negativeZeroFloatBits", type := .long, accessFlags := 26, slot := 5, constantValue := 0 }, { name := "negativeZeroDoubleBits", type := .long, accessFlags := 26, slot := 6, constantValue := 0 }, { name := "twoToTheDoubleScaleUp", type := .double, accessFlags := 8, slot := 7, constantValue := 0 }, { name := "twoToTheDoubleScaleDown", type := .double, accessFlags := 8, slot := 8, constantValue := 0 }, { name := "$assertionsDisabled", type := .boolean, accessFlags := 4120, slot := 9, constantValue := 0 }]
  methods := #[k12m0, k12m1]
  instanceTypes := #[]
  staticTypes := #[.double, .double, .double, .double, .double, .long, .long, .double, .double, .boolean]
  resolved := Array.replicate 460 none
  statics := none }

def pool13 : Array CpInfo := pool [(2, .class_ 4), (1, u "java/lang/Object"), (0, u "<init>"), (0, u "()V"), (35, .class_ 44), (1, u "java/util/Objects"), (0, u "requireNonNull"), (48, u "(Ljava/lang/Object;Ljava/lang/String;)Ljava/lang/Object;")] 89

def k13m0 : Method := { name := "<init>", desc := "()V", sig := { parameters := [], returnType := none }, accessFlags := 2, code := none }
def k13c1 : Code := { maxStack := 3, maxLocals := 2, code := jdk_31_method_11_code, exceptionTable := #[], attributes := #[] }
def k13m1 : Method := { name := "requireNonNull", desc := "(Ljava/lang/Object;Ljava/lang/String;)Ljava/lang/Object;", sig := { parameters := [(.object "java/lang/Object"), (.object "java/lang/String")], returnType := some (.object "java/lang/Object") }, accessFlags := 9, code := some k13c1 }
/-- java/util/Objects -/
def k13 : Class := { plain "java/util/Objects" (some 0) with
  accessFlags := 49
  interfaces := #[]
  cf := some (fileOf pool13 42 #[] #[{ accessFlags := 2, nameIndex := 5, descriptorIndex := 6, attributes := #[] }, { accessFlags := 9, nameIndex := 45, descriptorIndex := 94, attributes := #[] }] 49 2 #[] #[])
  fields := #[]
  methods := #[k13m0, k13m1]
  instanceTypes := #[]
  staticTypes := #[]
  resolved := Array.replicate 184 none
  statics := none }

def pool14 : Array CpInfo := pool [(1, u "java/lang/Cloneable"), (0, .class_ 1), (0, u "java/lang/Object"), (0, .class_ 3)] 3

/-- java/lang/Cloneable -/
def k14 : Class := { plain "java/lang/Cloneable" (some 0) with
  accessFlags := 1537
  interfaces := #[]
  cf := some (fileOf pool14 2 #[] #[] 1537 4 #[] #[])
  fields := #[]
  methods := #[]
  instanceTypes := #[]
  staticTypes := #[]
  resolved := Array.replicate 8 none
  statics := none }

/-- the primitive byte -/
def k15 : Class := { plain "byte" none with kind := .primitive 'B', accessFlags := 0x411 }
/-- [B -/
def k16 : Class := { plain "[B" (some 0) with kind := .array 15 .byte, interfaces := #[14, 4], accessFlags := 1041 }

/-- the primitive int -/
def k17 : Class := { plain "int" none with kind := .primitive 'I', accessFlags := 0x411 }
/-- [I -/
def k18 : Class := { plain "[I" (some 0) with kind := .array 17 .int, interfaces := #[14, 4], accessFlags := 1041 }

def heap : Heap := #[{ cls := 5, slots := #[.long 0, .ref 1], vm := .statics 5 },
  { cls := 5, slots := #[], vm := .none }]
def classes : Array Class := #[k0, k1, k2, k3, k4, k5, k6, k7, k8, k9, k10, k11, k12, k13, k14, k15, k16, k17, k18]
def interned : List (Array UInt16 × Addr) := []
def slotsUsed : Nat := 2
def theMethod : MethodId := ⟨1, 1⟩
def args0 : Array Value := #[.int 5, .int 6, .int 7, .int 8]
def aboutOver (below : List Frame) : State where
  vm := { classes := classes, interned := interned.toArray }
  heap := heap
  slotsUsed := slotsUsed
  threads := #[{ frames := .invoking theMethod args0 :: below }]
def below0 : List Frame := [.native { method := ⟨0, 0⟩, args := #[] }]
def about1 : State := aboutOver below0
def p0 : Program := .bare "" "" ""
def e0 : Env := launch0.env 0 0 0
theorem w_frames : about1.frames = Frame.invoking theMethod args0 :: below0 := rfl
set_option maxRecDepth 65536 in
theorem w_args : argsFit about1.vm theMethod args0 = true := by decide +kernel
set_option maxRecDepth 65536 in
theorem w_heap : heapFits about1 = true := by decide +kernel
set_option maxRecDepth 65536 in
theorem w_runnable : about1.curStatus? = some .runnable := by decide +kernel
set_option maxRecDepth 65536 in
theorem w_alone : about1.alone = true := by decide +kernel
set_option maxRecDepth 65536 in
theorem w_named : about1.methodNamed? x = some theMethod := by decide +kernel
set_option maxRecDepth 65536 in
theorem w_hears : about1.hears theMethod below0 = true := by decide +kernel
set_option maxRecDepth 65536 in
theorem w_ripe : about1.ripe theMethod args0 below0 = true := by decide +kernel
theorem w_running : about1.status = .running := rfl
set_option maxRecDepth 65536 in
theorem w_room : about1.hasRoom e0.platform room_1 = true :=
  launch0.hasRoom_least _ room_1 (by decide +kernel) (by decide +kernel) (by decide +kernel) (by decide +kernel) (by decide +kernel) (by decide +kernel)
theorem allAtoms_all (ts : List Jvm.Cond) (a : Array Jvm.Value) (st : Jvm.State) : (allAtoms ts).before a st = ts.all (fun c => c.before a st) := by
  induction ts with
  | nil => rfl
  | cons c t ih =>
    show (Jvm.Cond.and c (allAtoms t)).before a st = _
    rw [Jvm.Cond.before_and, ih, List.all_cons]
def words1 : List Jvm.Cond := Jvm.Cond.code x code maxLocals ret :: tables_1
/-- a 'code' word, met by the world's own term for the bytes: nothing is compared byte by byte -/
theorem code_word {y : MethodName} {bytes : ByteArray} {mx : Nat} {rt : Option FieldType} {a : Array Value} {s : State} {m : MethodId} {meth : Method} {c : Code} (h1 : s.methodNamed? y = some m) (h2 : s.vm.method? m = some meth) (h3 : meth.code = some c) (h4 : c.code = bytes)
    (h5 : (c.maxLocals == mx && c.exceptionTable.isEmpty && decide (c.maxStack ≤ mostOperands) && decide (meth.sig.returnType = rt) && !meth.locks && decide (parseMethodDescriptor y.desc = some meth.sig)) = true) : (Jvm.Cond.code y bytes mx rt).before a s = true := by
  simp only [Bool.and_eq_true, beq_iff_eq, Bool.not_eq_true', decide_eq_true_eq] at h5
  obtain ⟨⟨⟨⟨⟨g1, g2⟩, g3⟩, g4⟩, g5⟩, g6⟩ := h5
  simp [Cond.before, Cond.holds, Cond.value, h1, h2, h3, h4, g1, g2, g3, g4, g5, g6]
def isCode : Jvm.Cond → Bool
  | .code _ _ _ _ => true
  | _ => false
theorem all_split {L : List Jvm.Cond} {P : Jvm.Cond → Bool} (h1 : L.all (fun c => isCode c || P c) = true) (h2 : ∀ c ∈ L.filter isCode, P c = true) : L.all P = true := by
  refine List.all_eq_true.mpr fun c hc => ?_
  have h := List.all_eq_true.mp h1 c hc
  rcases Bool.eq_false_or_eq_true (isCode c) with hi | hi
  · exact h2 c (List.mem_filter.mpr ⟨hc, hi⟩)
  · simpa [hi] using h
set_option maxRecDepth 65536 in
theorem w_c0 : (Jvm.Cond.code x code maxLocals ret).before args0 about1 = true := code_word (m := ⟨1, 1⟩) (meth := k1m1) (c := k1c1) (by decide +kernel) rfl rfl rfl (by decide +kernel)
set_option maxRecDepth 65536 in
theorem w_c1 : (Jvm.Cond.code ({ cls := "com/example/fenliu/fenliu/Ejection", name := "<init>", desc := "(IJJI)V" } : Jvm.MethodName) prog_6_method_3_code (7 : Nat) (Option.none : Option Jvm.ClassFile.FieldType)).before args0 about1 = true := code_word (m := ⟨2, 1⟩) (meth := k2m1) (c := k2c1) (by decide +kernel) rfl rfl rfl (by decide +kernel)
set_option maxRecDepth 65536 in
theorem w_c2 : (Jvm.Cond.code ({ cls := "java/time/InstantSource", name := "system", desc := "()Ljava/time/InstantSource;" } : Jvm.MethodName) jdk_2322_method_1_code (0 : Nat) (Option.some (Jvm.ClassFile.FieldType.object "java/time/InstantSource"))).before args0 about1 = true := code_word (m := ⟨3, 0⟩) (meth := k3m0) (c := k3c0) (by decide +kernel) rfl rfl rfl (by decide +kernel)
set_option maxRecDepth 65536 in
theorem w_c3 : (Jvm.Cond.code ({ cls := "com/example/fenliu/fenliu/Ejection", name := "<init>", desc := "(IJJILjava/time/InstantSource;)V" } : Jvm.MethodName) prog_6_method_4_code (8 : Nat) (Option.none : Option Jvm.ClassFile.FieldType)).before args0 about1 = true := code_word (m := ⟨2, 2⟩) (meth := k2m2) (c := k2c2) (by decide +kernel) rfl rfl rfl (by decide +kernel)
set_option maxRecDepth 65536 in
theorem w_c4 : (Jvm.Cond.code ({ cls := "java/lang/Object", name := "<init>", desc := "()V" } : Jvm.MethodName) object_method_1_code (1 : Nat) (Option.none : Option Jvm.ClassFile.FieldType)).before args0 about1 = true := code_word (m := ⟨0, 0⟩) (meth := k0m0) (c := k0c0) (by decide +kernel) rfl rfl rfl (by decide +kernel)
set_option maxRecDepth 65536 in
theorem w_c5 : (Jvm.Cond.code ({ cls := "com/example/fenliu/fenliu/EpochMillis", name := "checkedSpan", desc := "(Ljava/lang/String;JJ)J" } : Jvm.MethodName) prog_8_method_4_code (5 : Nat) (Option.some Jvm.ClassFile.FieldType.long)).before args0 about1 = true := code_word (m := ⟨11, 1⟩) (meth := k11m1) (c := k11c1) (by decide +kernel) rfl rfl rfl (by decide +kernel)
set_option maxRecDepth 65536 in
theorem w_c6 : (Jvm.Cond.code ({ cls := "java/lang/Math", name := "max", desc := "(JJ)J" } : Jvm.MethodName) jdk_29_method_66_code (4 : Nat) (Option.some Jvm.ClassFile.FieldType.long)).before args0 about1 = true := code_word (m := ⟨12, 1⟩) (meth := k12m1) (c := k12c1) (by decide +kernel) rfl rfl rfl (by decide +kernel)
set_option maxRecDepth 65536 in
theorem w_c7 : (Jvm.Cond.code ({ cls := "java/util/Objects", name := "requireNonNull", desc := "(Ljava/lang/Object;Ljava/lang/String;)Ljava/lang/Object;" } : Jvm.MethodName) jdk_31_method_11_code (2 : Nat) (Option.some (Jvm.ClassFile.FieldType.object "java/lang/Object"))).before args0 about1 = true := code_word (m := ⟨13, 1⟩) (meth := k13m1) (c := k13c1) (by decide +kernel) rfl rfl rfl (by decide +kernel)
set_option maxRecDepth 65536 in
theorem w_c8 : (Jvm.Cond.code ({ cls := "com/example/fenliu/fenliu/Ejection", name := "allowsAnother", desc := "(II)Z" } : Jvm.MethodName) prog_6_method_9_code (3 : Nat) (Option.some Jvm.ClassFile.FieldType.boolean)).before args0 about1 = true := code_word (m := ⟨2, 3⟩) (meth := k2m3) (c := k2c3) (by decide +kernel) rfl rfl rfl (by decide +kernel)
def codes1 : List Jvm.Cond := [Jvm.Cond.code x code maxLocals ret, Jvm.Cond.code ({ cls := "com/example/fenliu/fenliu/Ejection", name := "<init>", desc := "(IJJI)V" } : Jvm.MethodName) prog_6_method_3_code (7 : Nat) (Option.none : Option Jvm.ClassFile.FieldType), Jvm.Cond.code ({ cls := "java/time/InstantSource", name := "system", desc := "()Ljava/time/InstantSource;" } : Jvm.MethodName) jdk_2322_method_1_code (0 : Nat) (Option.some (Jvm.ClassFile.FieldType.object "java/time/InstantSource")), Jvm.Cond.code ({ cls := "com/example/fenliu/fenliu/Ejection", name := "<init>", desc := "(IJJILjava/time/InstantSource;)V" } : Jvm.MethodName) prog_6_method_4_code (8 : Nat) (Option.none : Option Jvm.ClassFile.FieldType), Jvm.Cond.code ({ cls := "java/lang/Object", name := "<init>", desc := "()V" } : Jvm.MethodName) object_method_1_code (1 : Nat) (Option.none : Option Jvm.ClassFile.FieldType), Jvm.Cond.code ({ cls := "com/example/fenliu/fenliu/EpochMillis", name := "checkedSpan", desc := "(Ljava/lang/String;JJ)J" } : Jvm.MethodName) prog_8_method_4_code (5 : Nat) (Option.some Jvm.ClassFile.FieldType.long), Jvm.Cond.code ({ cls := "java/lang/Math", name := "max", desc := "(JJ)J" } : Jvm.MethodName) jdk_29_method_66_code (4 : Nat) (Option.some Jvm.ClassFile.FieldType.long), Jvm.Cond.code ({ cls := "java/util/Objects", name := "requireNonNull", desc := "(Ljava/lang/Object;Ljava/lang/String;)Ljava/lang/Object;" } : Jvm.MethodName) jdk_31_method_11_code (2 : Nat) (Option.some (Jvm.ClassFile.FieldType.object "java/lang/Object")), Jvm.Cond.code ({ cls := "com/example/fenliu/fenliu/Ejection", name := "allowsAnother", desc := "(II)Z" } : Jvm.MethodName) prog_6_method_9_code (3 : Nat) (Option.some Jvm.ClassFile.FieldType.boolean)]
set_option maxRecDepth 65536 in
theorem codes_eq : words1.filter isCode = codes1 := rfl
theorem w_codes : ∀ c ∈ words1.filter isCode, c.before args0 about1 = true := by
  rw [codes_eq]
  intro c hc
  simp only [codes1, List.mem_cons, List.not_mem_nil, or_false] at hc
  rcases hc with rfl | rfl | rfl | rfl | rfl | rfl | rfl | rfl | rfl
  · exact w_c0
  · exact w_c1
  · exact w_c2
  · exact w_c3
  · exact w_c4
  · exact w_c5
  · exact w_c6
  · exact w_c7
  · exact w_c8
set_option maxRecDepth 65536 in
theorem w_t1 : (words1.take 24).all (fun c => isCode c || c.before args0 about1) = true := by decide +kernel
set_option maxRecDepth 65536 in
theorem w_t2 : ((words1.drop 24).take 24).all (fun c => isCode c || c.before args0 about1) = true := by decide +kernel
set_option maxRecDepth 65536 in
theorem w_t3 : ((words1.drop 24).drop 24).all (fun c => isCode c || c.before args0 about1) = true := by decide +kernel
theorem w_tables : (allAtoms (Jvm.Cond.code x code maxLocals ret :: tables_1)).before args0 about1 = true := by
  rw [allAtoms_all]
  show words1.all (fun c => c.before args0 about1) = true
  refine all_split ?_ w_codes
  rw [← List.take_append_drop 24 words1, List.all_append, w_t1, ← List.take_append_drop 24 (words1.drop 24), List.all_append, w_t2, w_t3]
  rfl
set_option maxRecDepth 65536 in
theorem w_rest : rest_1_c.before args0 about1 = true := by decide +kernel
set_option maxRecDepth 65536 in
theorem w_case : (Jvm.Cond.and given_1 narrow_1).before args0 about1 = true := by decide +kernel
theorem w_applies : (headSpec (Jvm.Cond.code x code maxLocals ret :: tables_1) room_1).applies x e0.platform about1 = true :=
  (Spec.applies_iff w_frames).mpr ⟨w_running, w_runnable, w_alone, w_named, w_hears, w_ripe, w_room, w_tables⟩
theorem atStart : AtStart classFile x code maxLocals ret World_1 tables_1 room_1 Calls_1 rest_1 Pre_1 launch0 p0 e0 about1 theMethod args0 below0 :=
  ⟨lists_1, trivial, launch0.admits_env _ _ _, launch0.least_env, fairChoices_fair.cas, fairChoices_fair.clock, w_frames, w_args, w_heap, w_applies, trivial, w_rest, w_case⟩
end start1
theorem witness_1 : WitnessClaimed_1 := ⟨start1.p0, start1.e0, start1.about1, start1.theMethod, start1.args0, start1.below0, start1.atStart⟩
end Jvm.Pilot.@@N@@
