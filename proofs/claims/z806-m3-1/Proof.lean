import JvmDerived
import JvmDerived.Pilot.@@N@@Statement
import JvmDerived.Pilot.@@N@@Code
set_option linter.unusedVariables false
set_option linter.unusedSimpArgs false
namespace Jvm.RoadKit
open Sem ClassFile Op Lib Jvm.Stand Jvm.Free Jvm.LawKit
section New
variable {p : Program} {l : Launch} {e : Env} {R : Room} {s : State} {m : MethodId} {args : Array Value} {below : List Frame} {meth : Method} {c : Code} {T : State} {locs : List Loc} {cells slots : Nat}
theorem retI (X : Stand p l e R s m args below meth c T locs cells slots) (hx : p.tables.exec = Jvm.exec) {pc : Nat} {Ls : Array Slot} {z : Int32} {rest : List Value} (hret : meth.sig.returnType = some .int) (hd : decode c.code pc = .ok (.ireturn, 1)) {fs : List Frame}
    (hl : ∀ (f : JFrame) (acts : List Action), f.method = m → f.locked = none → f.entered = [] → (doReturn e (T.setTop f) acts (some (.int z))).1 = T.setFrames fs) : Steps p.tables e below (T.setTop (mkF m pc Ls (.int z :: rest))) (T.setFrames fs) := by
  have hm' : T.vm.method? m = some meth := X.method'
  have hn : narrow .int (.int z) = .int z := rfl
  show Steps p.tables e below (T.setTop { method := m, pc := pc, locals := Ls, stack := _ :: rest, locked := none }) _
  jvm_step X.here [X.here.top, hx, hd, hm', hret, hn]
  first | (intro acts; rw [hl _ acts rfl rfl rfl]) | rw [hl _ _ rfl rfl rfl]
  exact Steps.refl _
end New
end Jvm.RoadKit
@@BLOCK:NumsL.lean.txt@@
namespace Jvm.Pilot.@@N@@
open Jvm Jvm.ClassFile Sem Op Lib Jvm.Free Jvm.Stand Jvm.LawKit Jvm.RoadKit Bundle Jvm.Pilot.@@N@@.Jvm.D
def own_End (p : Program) (e : Env) (below : List Frame) (P : Outcome → State → Prop) (S : State) : Prop :=
  ∃ s₂ o, Steps p.tables e below S s₂ ∧ s₂.status = .running ∧ Ended s₂ below o ∧ P o s₂
abbrev own_Met (l : Launch) (Z : State) (y : MethodName) (bytes : ByteArray) (maxL : Nat) (rt : Option FieldType) (ws : List Jvm.Cond) (rm : Room) (as' : Array Value) (h0 : Heap) (Q : Option Value → Heap → List Loc → Prop) : Prop :=
  MetFree l y (head1 (Jvm.Cond.code y bytes maxL rt :: ws) rm) (fun a U => a = as' ∧ Z.Warmed39 U.vm ∧ U.heap = h0) (fun _ _ _ _ _ => True) (fun _ U o U' => ∃ v L, o = .returned v ∧ Q v U'.heap L ∧ FrameEnd U o U' L rm.cells rm.slots)
def own_Ok (Q : Option Value → Heap → List Loc → Prop) (s : State) (kc ks : Nat) (P : Outcome → State → Prop) : Prop := ∀ v U L, Q v U.heap L → FrameEnd s (.returned v) U L kc ks → P (.returned v) U
section Own
variable {p : Program} {l : Launch} {e : Env} {R : Room} {s : State} {m : MethodId} {args : Array Value} {below : List Frame} {meth : Method} {c : Code} {T : State} {locs : List Loc} {cells slots : Nat} {Z : State} {a0 : Array Value} {h : Heap} {P : Outcome → State → Prop}
theorem own_st {S S' : State} (q : ∀ t, Steps p.tables e below S' t → Steps p.tables e below S t) (k : own_End p e below P S') : own_End p e below P S := by
  obtain ⟨a, b, c, d⟩ := k
  exact ⟨a, b, q _ c, d⟩
theorem own_tr {S S' : State} (q : Steps p.tables e below S S') (k : own_End p e below P S') : own_End p e below P S := own_st (fun _ r => q.trans r) k
theorem own_enter {y : MethodName} {bytes : ByteArray} {maxL : Nat} {rt : Option FieldType} {ws : List Jvm.Cond} {rm : Room} {as' : Array Value} {h0 : Heap} {Q : Option Value → Heap → List Loc → Prop} (hpl : plainFor y = true)
    (body : ∀ (p : Program) (e : Env) (s : State) (m : MethodId) (below : List Frame) (meth : Method) (c : Code) (s₁ : State) (P : Outcome → State → Prop), p.tables.exec = Jvm.exec → c.code = bytes → c.maxLocals = maxL → meth.sig.returnType = rt → meth.locks = false → s.vm.findClass y.cls = some m.cls → meth.name = y.name → Z.Warmed39 s.vm →
      Stand p l e rm s m as' below meth c s₁ [] 0 0 → s₁.heap = h0 → own_Ok Q s rm.cells rm.slots P → own_End p e below P (s₁.setTop (entryFrame m as' maxL))) :
    own_Met l Z y bytes maxL rt ws rm as' h0 Q := by
  refine MetFree.of_bodySF hpl hisR ?_
  intro p e s m args below meth c s₁ Bd hml0 hP hK
  obtain ⟨rfl, hZ, hh⟩ := hP
  exact body p e s m below meth c s₁ _ Bd.exec Bd.bytes hml0 Bd.returns Bd.notSynchronized (findClass_of_methodNamed Bd.named) (name_of_methodNamed Bd.named Bd.method).1 hZ (Stand.of_body Bd) (by rw [← hh, Bd.state]; rfl) (fun v U L q f => ⟨v, L, rfl, q, f⟩)
theorem own_cast {g g' : JFrame} (q : g = g') (k : own_End p e below P (T.setTop g')) : own_End p e below P (T.setTop g) := q ▸ k
theorem own_retI (X : Stand p l e R s m args below meth c T locs cells slots) (hx : p.tables.exec = Jvm.exec) (hlk : meth.locks = false) {kc ks : Nat} {Q : Option Value → Heap → List Loc → Prop} (hP : own_Ok Q s kc ks P)
    {pc : Nat} {Ls : Array Slot} {z : Int32} {rest : List Value} (hret : meth.sig.returnType = some .int) (hd : decode c.code pc = .ok (.ireturn, 1)) (h1 : cells ≤ kc) (h2 : slots ≤ ks) (hq : Q (some (.int z)) T.heap locs) : own_End p e below P (T.setTop (mkF m pc Ls (.int z :: rest))) := by
  obtain ⟨fs, hr, hrun, hended, hW, hsame⟩ := X.leave (v := some (.int z)) (fun h => by rw [hret] at h; cases h) hlk
  exact ⟨_, _, retI X hx hret hd hr, hrun, hended, hP _ _ locs hq ⟨⟨_, rfl⟩, hW, hsame.mono h1 h2⟩⟩
theorem own_retN (X : Stand p l e R s m args below meth c T locs cells slots) (hx : p.tables.exec = Jvm.exec) (hlk : meth.locks = false) {kc ks : Nat} {Q : Option Value → Heap → List Loc → Prop} (hP : own_Ok Q s kc ks P)
    {pc : Nat} {Ls : Array Slot} {z : Int32} {t : FieldType} {rest : List Value} (ht : t = .boolean ∨ t = .byte ∨ t = .char ∨ t = .short) (hret : meth.sig.returnType = some t) (hd : decode c.code pc = .ok (.ireturn, 1)) (h1 : cells ≤ kc) (h2 : slots ≤ ks) (hq : Q (some (.int (nar t z))) T.heap locs) : own_End p e below P (T.setTop (mkF m pc Ls (.int z :: rest))) := by
  obtain ⟨fs, hr, hrun, hended, hW, hsame⟩ := X.leave (v := some (.int (nar t z))) (fun h => by rw [hret] at h; cases h) hlk
  exact ⟨_, _, retN X hx hret ht hd hr, hrun, hended, hP _ _ locs hq ⟨⟨_, rfl⟩, hW, hsame.mono h1 h2⟩⟩
theorem own_retL (X : Stand p l e R s m args below meth c T locs cells slots) (hx : p.tables.exec = Jvm.exec) (hlk : meth.locks = false) {kc ks : Nat} {Q : Option Value → Heap → List Loc → Prop} (hP : own_Ok Q s kc ks P)
    {pc : Nat} {Ls : Array Slot} {z : Int64} {rest : List Value} (hret : meth.sig.returnType = some .long) (hd : decode c.code pc = .ok (.lreturn, 1)) (h1 : cells ≤ kc) (h2 : slots ≤ ks) (hq : Q (some (.long z)) T.heap locs) : own_End p e below P (T.setTop (mkF m pc Ls (.long z :: rest))) := by
  obtain ⟨fs, hr, hrun, hended, hW, hsame⟩ := X.leave (v := some (.long z)) (fun h => by rw [hret] at h; cases h) hlk
  exact ⟨_, _, retOut X hx hret rfl (Or.inr (Or.inl ⟨rfl, rfl, z, rfl⟩)) hd hr, hrun, hended, hP _ _ locs hq ⟨⟨_, rfl⟩, hW, hsame.mono h1 h2⟩⟩
theorem own_retR (X : Stand p l e R s m args below meth c T locs cells slots) (hx : p.tables.exec = Jvm.exec) (hlk : meth.locks = false) {kc ks : Nat} {Q : Option Value → Heap → List Loc → Prop} (hP : own_Ok Q s kc ks P)
    {pc : Nat} {Ls : Array Slot} {w : Value} {t : FieldType} {rest : List Value} (hw : w.isRef = true) (ht : t.isReference = true) (hret : meth.sig.returnType = some t) (hd : decode c.code pc = .ok (.areturn, 1)) (h1 : cells ≤ kc) (h2 : slots ≤ ks) (hq : Q (some w) T.heap locs) : own_End p e below P (T.setTop (mkF m pc Ls (w :: rest))) := by
  obtain ⟨fs, hr, hrun, hended, hW, hsame⟩ := X.leave (v := some w) (fun h => by rw [hret] at h; cases h) hlk
  have hn : narrow t w = w := by rcases ref_cases hw with rfl | ⟨a, rfl⟩ <;> cases t <;> rfl
  exact ⟨_, _, retOut X hx hret hn (Or.inr (Or.inr (Or.inr (Or.inr ⟨rfl, ht, hw⟩)))) hd hr, hrun, hended, hP _ _ locs hq ⟨⟨_, rfl⟩, hW, hsame.mono h1 h2⟩⟩
theorem own_retV (X : Stand p l e R s m args below meth c T locs cells slots) (hx : p.tables.exec = Jvm.exec) (hlk : meth.locks = false) {kc ks : Nat} {Q : Option Value → Heap → List Loc → Prop} (hP : own_Ok Q s kc ks P)
    {pc : Nat} {Ls : Array Slot} (hret : meth.sig.returnType = none) (hd : decode c.code pc = .ok (.return_, 1)) (h1 : cells ≤ kc) (h2 : slots ≤ ks) (hq : Q none T.heap locs) : own_End p e below P (T.setTop (mkF m pc Ls [])) := by
  obtain ⟨fs, hr, hrun, hended, hW, hsame⟩ := X.leave (v := none) (fun _ => rfl) hlk
  exact ⟨_, _, X.returnOut hx hret hd hr, hrun, hended, hP _ _ locs hq ⟨⟨_, rfl⟩, hW, hsame.mono h1 h2⟩⟩
theorem own_callS (X : Stand p l e R s m args below meth c T locs cells slots) (hx : p.tables.exec = Jvm.exec) (hZ : Z.Warmed39 s.vm) {own : String} {index : Nat} {y : MethodName} {bytes : ByteArray} {maxL : Nat} {rt : Option FieldType} {rm : Room} {as' : Array Value} {Q : Option Value → Heap → List Loc → Prop}
    (hown : s.vm.findClass own = some m.cls) (w1 : (Jvm.Cond.methodLink own index y).before a0 Z = true) (w2 : (Jvm.Cond.static y).before a0 Z = true) (w3 : (Jvm.Cond.initialized y.cls).before a0 Z = true) (w4 : (Jvm.Cond.code y bytes maxL rt).before a0 Z = true) (hy : y.cls ≠ "java/lang/invoke/MethodHandle" ∧ y.cls ≠ "java/lang/invoke/VarHandle")
    (hM : own_Met l Z y bytes maxL rt [] rm as' h Q) (W : Nat) (hf : rm.frames + 1 ≤ R.frames) (hl : W + (maxL + 11) + rm.locals ≤ R.locals) (eT : T.heap = h) (hc : cells + rm.cells ≤ R.cells) (hs : slots + rm.slots ≤ R.slots)
    {g : JFrame} (hg : g.method = m) (hsize : g.locals.size = c.maxLocals) {argsL rest : List Value} (ha : argsL.toArray = as') (hlen : ∀ sig, parseMethodDescriptor y.desc = some sig → argsL.length = sig.parameters.length) (hstack : g.stack = argsL.reverse ++ rest) (hW : 2 * g.monitorRoom + (rest.map fun v => v.category).sum ≤ W) (hdg : decode c.code g.pc = .ok (.invokestatic index, 3))
    (k : ∀ v T' L, Stand p l e R s m args below meth c T' (locs ++ L) (cells + rm.cells) (slots + rm.slots) → Q v T'.heap L → own_End p e below P (T'.setTop { g with pc := g.pc + 3, stack := v.toList ++ rest })) : own_End p e below P (T.setTop g) := by
  obtain ⟨v, vm₁, ⟨T', L', k', n'⟩, -, X', ⟨L, hQ, h1, h2, h3⟩, st⟩ := Jvm.LawKit.callS X hx hown (mvT hZ w1) (mvT hZ w2) (mvT hZ w3) (mvT hZ w4) hy (backOf (W := W) hM hZ w4 w3 hf hl) hg hsize hlen hstack hW hdg (fun _ _ => ⟨ha, eT, hc, hs⟩)
  dsimp only [Pt.U, Pt.locs, Pt.cells, Pt.slots] at X' h1 h2 h3 st hQ
  subst h1 h2 h3
  exact own_st st (k v T' L X' hQ)
theorem own_callI (X : Stand p l e R s m args below meth c T locs cells slots) (hx : p.tables.exec = Jvm.exec) (hZ : Z.Warmed39 s.vm) {own : String} {index : Nat} {y : MethodName} {bytes : ByteArray} {maxL : Nat} {rm : Room} {as' : Array Value} {Q : Option Value → Heap → List Loc → Prop}
    (hy1 : y.name = "<init>") (hown : s.vm.findClass own = some m.cls) (w1 : (Jvm.Cond.methodLink own index y).before a0 Z = true) (w2 : (Jvm.Cond.instanceMethod y).before a0 Z = true) (w3 : (Jvm.Cond.initialized y.cls).before a0 Z = true) (w4 : (Jvm.Cond.code y bytes maxL none).before a0 Z = true) (hy : y.cls ≠ "java/lang/invoke/MethodHandle" ∧ y.cls ≠ "java/lang/invoke/VarHandle")
    (hM : own_Met l Z y bytes maxL none [] rm as' h Q) (W : Nat) (hf : rm.frames + 1 ≤ R.frames) (hl : W + (maxL + 11) + rm.locals ≤ R.locals) (eT : T.heap = h) (hc : cells + rm.cells ≤ R.cells) (hs : slots + rm.slots ≤ R.slots)
    {g : JFrame} (hg : g.method = m) (hsize : g.locals.size = c.maxLocals) {a : Addr} {argsL rest : List Value} (ha : (Value.ref a :: argsL).toArray = as') (hlen : ∀ sig, parseMethodDescriptor y.desc = some sig → argsL.length = sig.parameters.length) (hstack : g.stack = argsL.reverse ++ .ref a :: rest) (hW : 2 * g.monitorRoom + (rest.map fun v => v.category).sum ≤ W) (hdg : decode c.code g.pc = .ok (.invokespecial index, 3))
    (k : ∀ v T' L, Stand p l e R s m args below meth c T' (locs ++ L) (cells + rm.cells) (slots + rm.slots) → Q v T'.heap L → own_End p e below P (T'.setTop { g with pc := g.pc + 3, stack := v.toList ++ rest })) : own_End p e below P (T.setTop g) := by
  obtain ⟨v, vm₁, ⟨T', L', k', n'⟩, -, X', ⟨L, hQ, h1, h2, h3⟩, st⟩ := X.specialBack hx hy1 hown (mvT hZ w1) (mvT hZ w2) (mvT hZ w4) hy (backOf (W := W) hM hZ w4 w3 hf hl) hg hsize (Steps.refl _) hlen hstack hW hdg (fun _ _ => ⟨ha, eT, hc, hs⟩)
  dsimp only [Pt.U, Pt.locs, Pt.cells, Pt.slots] at X' h1 h2 h3 st hQ
  subst h1 h2 h3
  exact own_tr st (k v T' L X' hQ)
theorem own_callV (X : Stand p l e R s m args below meth c T locs cells slots) (hx : p.tables.exec = Jvm.exec) (hZ : Z.Warmed39 s.vm) {own C : String} {index : Nat} {y z : MethodName} {bytes : ByteArray} {maxL : Nat} {rt : Option FieldType} {rm : Room} {as' : Array Value} {Q : Option Value → Heap → List Loc → Prop}
    (hown : s.vm.findClass own = some m.cls) (w1 : (Jvm.Cond.methodLink own index y).before a0 Z = true) (w2 : (Jvm.Cond.declares y).before a0 Z = true) (hnf : NotFace s y) (w5 : (Jvm.Cond.selects C y z).before a0 Z = true) (w6 : (Jvm.Cond.instanceMethod z).before a0 Z = true) (w3 : (Jvm.Cond.initialized z.cls).before a0 Z = true) (w4 : (Jvm.Cond.code z bytes maxL rt).before a0 Z = true) (hy : y.cls ≠ "java/lang/invoke/MethodHandle" ∧ y.cls ≠ "java/lang/invoke/VarHandle")
    {a : Addr} (E : Exa Z h a C) (hM : own_Met l Z z bytes maxL rt [] rm as' h Q) (W : Nat) (hf : rm.frames + 1 ≤ R.frames) (hl : W + (maxL + 11) + rm.locals ≤ R.locals) (eT : T.heap = h) (hc : cells + rm.cells ≤ R.cells) (hs : slots + rm.slots ≤ R.slots)
    {g : JFrame} (hg : g.method = m) (hsize : g.locals.size = c.maxLocals) {argsL rest : List Value} (ha : (Value.ref a :: argsL).toArray = as') (hlen : ∀ sig, parseMethodDescriptor y.desc = some sig → argsL.length = sig.parameters.length) (hstack : g.stack = argsL.reverse ++ .ref a :: rest) (hW : 2 * g.monitorRoom + (rest.map fun v => v.category).sum ≤ W) (hdg : decode c.code g.pc = .ok (.invokevirtual index, 3))
    (k : ∀ v T' L, Stand p l e R s m args below meth c T' (locs ++ L) (cells + rm.cells) (slots + rm.slots) → Q v T'.heap L → own_End p e below P (T'.setTop { g with pc := g.pc + 3, stack := v.toList ++ rest })) : own_End p e below P (T.setTop g) := by
  obtain ⟨cB, kB, q1, q2, q3⟩ := isOf hZ eT E
  obtain ⟨v, vm₁, ⟨T', L', k', n'⟩, -, X', ⟨L, hQ, h1, h2, h3⟩, st⟩ := X.virtualBack hx (y := y) (z := z) hown (mvT hZ w1) (mvT hZ w2) hnf (mvT hZ w5) (mvT hZ w6) hy (backOf (W := W) hM hZ w4 w3 hf hl) q1 q3 hg hsize (Steps.refl _) hlen hstack hW hdg (fun _ _ => ⟨ha, eT, hc, hs⟩)
  dsimp only [Pt.U, Pt.locs, Pt.cells, Pt.slots] at X' h1 h2 h3 st hQ
  subst h1 h2 h3
  exact own_tr st (k v T' L X' hQ)
theorem own_callU (X : Stand p l e R s m args below meth c T locs cells slots) (hx : p.tables.exec = Jvm.exec) (hZ : Z.Warmed39 s.vm) {own C owner : String} {index : Nat} {x y : MethodName} {bytes : ByteArray} {maxL : Nat} {rt : Option FieldType} {rm : Room} {as' : Array Value} {Q : Option Value → Heap → List Loc → Prop}
    (hown : s.vm.findClass own = some m.cls) (w1 : (Jvm.Cond.methodLink own index x).before a0 Z = true) (w2 : (Jvm.Cond.sameMethod x.cls owner x.name x.desc).before a0 Z = true) (w7 : (Jvm.Cond.declares ⟨owner, x.name, x.desc⟩).before a0 Z = true) (hy : owner ≠ "java/lang/invoke/MethodHandle" ∧ owner ≠ "java/lang/invoke/VarHandle") (w5 : (Jvm.Cond.selects C x y).before a0 Z = true) (w6 : (Jvm.Cond.instanceMethod y).before a0 Z = true) (w3 : (Jvm.Cond.initialized y.cls).before a0 Z = true) (w4 : (Jvm.Cond.code y bytes maxL rt).before a0 Z = true)
    {a : Addr} (E : Exa Z h a C) (hM : own_Met l Z y bytes maxL rt [] rm as' h Q) (W : Nat) (hf : rm.frames + 1 ≤ R.frames) (hl : W + (maxL + 11) + rm.locals ≤ R.locals) (eT : T.heap = h) (hc : cells + rm.cells ≤ R.cells) (hs : slots + rm.slots ≤ R.slots)
    {g : JFrame} (hg : g.method = m) (hsize : g.locals.size = c.maxLocals) {argsL rest : List Value} (ha : (Value.ref a :: argsL).toArray = as') (hlen : ∀ sig, parseMethodDescriptor x.desc = some sig → argsL.length = sig.parameters.length) (hstack : g.stack = argsL.reverse ++ .ref a :: rest) (hW : 2 * g.monitorRoom + (rest.map fun v => v.category).sum ≤ W) (hdg : decode c.code g.pc = .ok (.invokevirtual index, 3))
    (k : ∀ v T' L, Stand p l e R s m args below meth c T' (locs ++ L) (cells + rm.cells) (slots + rm.slots) → Q v T'.heap L → own_End p e below P (T'.setTop { g with pc := g.pc + 3, stack := v.toList ++ rest })) : own_End p e below P (T.setTop g) := by
  obtain ⟨cB, kB, q1, q2, q3⟩ := isOf hZ eT E
  obtain ⟨v, vm₁, ⟨T', L', k', n'⟩, -, X', ⟨L, hQ, h1, h2, h3⟩, st⟩ := X.virtualBackUp hx (x := x) (y := y) hown (mvT hZ w1) (mvT hZ w2) (mvT hZ w7) hy (mvT hZ w5) (mvT hZ w6) (backOf (W := W) hM hZ w4 w3 hf hl) q1 q3 hg hsize (Steps.refl _) hlen hstack hW hdg (fun _ _ => ⟨ha, eT, hc, hs⟩)
  dsimp only [Pt.U, Pt.locs, Pt.cells, Pt.slots] at X' h1 h2 h3 st hQ
  subst h1 h2 h3
  exact own_tr st (k v T' L X' hQ)
theorem own_pop2L (X : Stand p l e R s m args below meth c T locs cells slots) (hx : p.tables.exec = Jvm.exec) {pc : Nat} {Ls : Array Slot} {rest : List Value} {x : Int64} (hd : decode c.code pc = .ok (.pop2, 1)) (k : own_End p e below P (T.setTop (mkF m (pc + 1) Ls rest))) : own_End p e below P (T.setTop (mkF m pc Ls (.long x :: rest))) :=
  own_st (fun _ r => by
    show Steps p.tables e below (T.setTop { method := m, pc := pc, locals := Ls, stack := .long x :: rest, locked := none }) _
    jvm_step X.here [X.here.top, hx, hd, Value.category]
    exact r) k
theorem own_sel {y z : MethodName} (hz : z.cls = y.cls) (hy : y.cls ≠ "java/lang/invoke/MethodHandle" ∧ y.cls ≠ "java/lang/invoke/VarHandle") (w5 : (Jvm.Cond.selects y.cls z z).before args s = true) (wi : (Jvm.Cond.instanceMethod y).before args s = true) (hp : s.PrivateAt y) : (Jvm.Cond.selects y.cls y y).before args s = true := by
  obtain ⟨mk, mm, hn, hm, -, -⟩ := Cond.instanceMethod_spec wi
  obtain ⟨c2, r2, m2, -, -, q3, -, kP, hk, hi⟩ := Cond.selects_spec w5
  have a1 := findClass_of_methodNamed hn
  have a2 := findClass_of_methodNamed q3
  rw [hz] at a2
  have e : m2.cls = mk.cls := Option.some.inj (a2.symm.trans a1)
  rw [e] at hk
  have hs : selectMethod {} s.vm mk.cls mk = .method mk := selectMethod_private hm (hp mk mm hn hm)
  have hf := State.methodFound?_of_named hn hy
  simp [Cond.before, Cond.holds, Cond.value, a1, hf, hn, hs, hk, hi]
theorem own_callP (X : Stand p l e R s m args below meth c T locs cells slots) (hx : p.tables.exec = Jvm.exec) (hZ : Z.Warmed39 s.vm) {own : String} {index : Nat} {y z : MethodName} {bytes : ByteArray} {maxL : Nat} {rt : Option FieldType} {rm : Room} {as' : Array Value} {Q : Option Value → Heap → List Loc → Prop}
    (hown : s.vm.findClass own = some m.cls) (w1 : (Jvm.Cond.methodLink own index y).before a0 Z = true) (w2 : (Jvm.Cond.instanceMethod y).before a0 Z = true) (hz : z.cls = y.cls) (w5 : (Jvm.Cond.selects y.cls z z).before a0 Z = true) (w6 : (Jvm.Cond.privateMethod y).before a0 Z = true) (w3 : (Jvm.Cond.initialized y.cls).before a0 Z = true) (w4 : (Jvm.Cond.code y bytes maxL rt).before a0 Z = true) (hy : y.cls ≠ "java/lang/invoke/MethodHandle" ∧ y.cls ≠ "java/lang/invoke/VarHandle")
    {C : String} {a : Addr} (E : Exa Z h a C) (hM : own_Met l Z y bytes maxL rt [] rm as' h Q) (W : Nat) (hf : rm.frames + 1 ≤ R.frames) (hl : W + (maxL + 11) + rm.locals ≤ R.locals) (eT : T.heap = h) (hc : cells + rm.cells ≤ R.cells) (hs : slots + rm.slots ≤ R.slots)
    {g : JFrame} (hg : g.method = m) (hsize : g.locals.size = c.maxLocals) {argsL rest : List Value} (ha : (Value.ref a :: argsL).toArray = as') (hlen : ∀ sig, parseMethodDescriptor y.desc = some sig → argsL.length = sig.parameters.length) (hstack : g.stack = argsL.reverse ++ .ref a :: rest) (hW : 2 * g.monitorRoom + (rest.map fun v => v.category).sum ≤ W) (hdg : decode c.code g.pc = .ok (.invokevirtual index, 3))
    (k : ∀ v T' L, Stand p l e R s m args below meth c T' (locs ++ L) (cells + rm.cells) (slots + rm.slots) → Q v T'.heap L → own_End p e below P (T'.setTop { g with pc := g.pc + 3, stack := v.toList ++ rest })) : own_End p e below P (T.setTop g) := by
  obtain ⟨cq, q1, q2⟩ := E.cell
  have hp : s.PrivateAt y := Cond.privateMethod_at (mvP hZ w6 (args := args))
  obtain ⟨v, vm₁, ⟨T', L', k', n'⟩, -, X', ⟨L, hQ, h1, h2, h3⟩, st⟩ := X.privateBack hx (y := y) hown (mvT hZ w1) (mvT hZ w2) (own_sel hz hy (mvT hZ w5) (mvT hZ w2) hp) hp (mvT hZ w4) hy (backOf (W := W) hM hZ w4 w3 hf hl) hg hsize (Steps.refl _) (a := a) (by rw [eT]; exact q1) q2 hlen hstack hW hdg (fun _ _ => ⟨ha, eT, hc, hs⟩)
  dsimp only [Pt.U, Pt.locs, Pt.cells, Pt.slots] at X' h1 h2 h3 st hQ
  subst h1 h2 h3
  exact own_tr st (k v T' L X' hQ)
theorem own_tsw (X : Stand p l e R s m args below meth c T locs cells slots) (hx : p.tables.exec = Jvm.exec) {pc len pc' : Nat} {Ls : Array Slot} {rest : List Value} {dflt low high o : Int} {offs : Array Int} {i : Int32} (hd : decode c.code pc = .ok (.tableswitch dflt low high offs, len)) (hin : ¬ (i.toInt < low ∨ i.toInt > high)) (hoff : offs[(i.toInt - low).toNat]? = some o) (ho : 0 ≤ (pc : Int) + o) (hp : ((pc : Int) + o).toNat = pc')
    (k : own_End p e below P (T.setTop (mkF m pc' Ls rest))) : own_End p e below P (T.setTop (mkF m pc Ls (.int i :: rest))) :=
  own_st (fun _ r => XS.tswIn (g := mkF m pc Ls (.int i :: rest)) X.here hx rfl rfl hd rfl hin hoff ho hp r) k
theorem own_lt {x y : Int64} : lcmpW x y < 0 ↔ x < y := by rw [lcW]; exact lc_lt x y
theorem own_gt {x y : Int64} : 0 < lcmpW x y ↔ y < x := by rw [lcW]; exact lc_gt x y
theorem own_eq {x y : Int64} : lcmpW x y = 0 ↔ x = y := by rw [lcW]; exact lc_eq x y
theorem own_eqInt {first : State} {o : Option Outcome} {idx : List Nat} {t : Term} {k : Int32} (q : (Jvm.Cond.eq t (.int k)).value args first o s idx = some true) : t.eval args first o idx s = some (.int k) := by
  obtain ⟨x, y, e1, e2, k1, k2⟩ := cmp_v (Or.inl q)
  rw [Term.int_eval] at e2
  cases e2
  obtain ⟨z, rfl⟩ := k2
  rw [e1, gotT (Cond.eq_ints e1 (Term.int_eval k)) q]
end Own
/-! walks that may load String constants: the end is the wide one -/
def own_OkW (Q : Option Value → Heap → List Loc → Prop) (s : State) (kc ks : Nat) (P : Outcome → State → Prop) : Prop := ∀ v U L, Q v U.heap L → ReturnedEndW s (.returned v) U L kc ks → P (.returned v) U
abbrev own_MetW (l : Launch) (Z : State) (y : MethodName) (bytes : ByteArray) (maxL : Nat) (rt : Option FieldType) (ws : List Jvm.Cond) (rm : Room) (as' : Array Value) (h0 : Heap) (Q : Option Value → Heap → List Loc → Prop) : Prop :=
  MetFree l y (head1 (Jvm.Cond.code y bytes maxL rt :: ws) rm) (fun a U => a = as' ∧ Z.Warmed39 U.vm ∧ U.heap = h0) (fun _ _ _ _ _ => True) (fun _ U o U' => ∃ v L, o = .returned v ∧ Q v U'.heap L ∧ ReturnedEndW U o U' L rm.cells rm.slots)
section OwnW
variable {p : Program} {l : Launch} {e : Env} {R : Room} {s : State} {m : MethodId} {args : Array Value} {below : List Frame} {meth : Method} {c : Code} {T : State} {locs : List Loc} {cells slots : Nat} {Z : State} {a0 : Array Value} {h : Heap} {P : Outcome → State → Prop} {vm0 : Vm} {k0 : Nat}
theorem own_enterW {y : MethodName} {bytes : ByteArray} {maxL : Nat} {rt : Option FieldType} {ws : List Jvm.Cond} {rm : Room} {as' : Array Value} {h0 : Heap} {Q : Option Value → Heap → List Loc → Prop} (hpl : plainFor y = true)
    (body : ∀ (p : Program) (e : Env) (s : State) (m : MethodId) (below : List Frame) (meth : Method) (c : Code) (s₁ : State) (P : Outcome → State → Prop) (vm0 : Vm) (k0 : Nat), p.tables.exec = Jvm.exec → c.code = bytes → c.maxLocals = maxL → meth.sig.returnType = rt → meth.locks = false → (s.setVm vm0).vm.findClass y.cls = some m.cls → meth.name = y.name → Z.Warmed39 (s.setVm vm0).vm →
      Stand p l e rm (s.setVm vm0) m as' below meth c s₁ [] 0 0 → s₁.heap = h0 → s.Since vm0 k0 → k0 ≤ h0.size → own_OkW Q s rm.cells rm.slots P → own_End p e below P (s₁.setTop (entryFrame m as' maxL))) :
    own_MetW l Z y bytes maxL rt ws rm as' h0 Q := by
  refine MetFree.of_bodySF hpl hisR ?_
  intro p e s m args below meth c s₁ Bd hml0 hP hK
  obtain ⟨rfl, hZ, hh⟩ := hP
  exact body p e s m below meth c s₁ _ s.vm s.heap.size Bd.exec Bd.bytes hml0 Bd.returns Bd.notSynchronized (findClass_of_methodNamed Bd.named) (name_of_methodNamed Bd.named Bd.method).1 hZ (Stand.of_body Bd) (by rw [← hh, Bd.state]; rfl) ((State.WarmedH.refl s).since _) (by rw [hh]; exact Nat.le_refl _) (fun v U L q f => ⟨v, L, rfl, q, f⟩)
theorem own_monoW {U : State} {o : Outcome} {L : List Loc} {k n k' n' : Nat} (q : ReturnedEndW s o U L k n) (h1 : k ≤ k') (h2 : n ≤ n') : ReturnedEndW s o U L k' n' := ⟨q.1, q.2.1, q.2.2.1, q.2.2.2.mono h1 h2⟩
theorem own_retVW (X : Stand p l e R (s.setVm vm0) m args below meth c T locs cells slots) (hS : s.Since vm0 k0) (hk : k0 ≤ h.size) (eT : T.heap = h) (hx : p.tables.exec = Jvm.exec) (hlk : meth.locks = false) {kc ks : Nat} {Q : Option Value → Heap → List Loc → Prop} (hP : own_OkW Q s kc ks P)
    {pc : Nat} {Ls : Array Slot} (hret : meth.sig.returnType = none) (hd : decode c.code pc = .ok (.return_, 1)) (h1 : cells ≤ kc) (h2 : slots ≤ ks) (hq : Q none T.heap locs) : own_End p e below P (T.setTop (mkF m pc Ls [])) := by
  obtain ⟨fs, hr, hrun, hended, hW⟩ := X.leaveW hS (by rw [eT]; exact hk) (v := none) (fun _ => rfl) hlk
  exact ⟨_, _, X.returnOut hx hret hd hr, hrun, hended, hP _ _ locs hq (own_monoW hW h1 h2)⟩
theorem own_retNW (X : Stand p l e R (s.setVm vm0) m args below meth c T locs cells slots) (hS : s.Since vm0 k0) (hk : k0 ≤ h.size) (eT : T.heap = h) (hx : p.tables.exec = Jvm.exec) (hlk : meth.locks = false) {kc ks : Nat} {Q : Option Value → Heap → List Loc → Prop} (hP : own_OkW Q s kc ks P)
    {pc : Nat} {Ls : Array Slot} {z : Int32} {t : FieldType} {rest : List Value} (ht : t = .boolean ∨ t = .byte ∨ t = .char ∨ t = .short) (hret : meth.sig.returnType = some t) (hd : decode c.code pc = .ok (.ireturn, 1)) (h1 : cells ≤ kc) (h2 : slots ≤ ks) (hq : Q (some (.int (nar t z))) T.heap locs) : own_End p e below P (T.setTop (mkF m pc Ls (.int z :: rest))) := by
  obtain ⟨fs, hr, hrun, hended, hW⟩ := X.leaveW hS (by rw [eT]; exact hk) (v := some (.int (nar t z))) (fun h => by rw [hret] at h; cases h) hlk
  exact ⟨_, _, retN X hx hret ht hd hr, hrun, hended, hP _ _ locs hq (own_monoW hW h1 h2)⟩
theorem own_retIW (X : Stand p l e R (s.setVm vm0) m args below meth c T locs cells slots) (hS : s.Since vm0 k0) (hk : k0 ≤ h.size) (eT : T.heap = h) (hx : p.tables.exec = Jvm.exec) (hlk : meth.locks = false) {kc ks : Nat} {Q : Option Value → Heap → List Loc → Prop} (hP : own_OkW Q s kc ks P)
    {pc : Nat} {Ls : Array Slot} {z : Int32} {rest : List Value} (hret : meth.sig.returnType = some .int) (hd : decode c.code pc = .ok (.ireturn, 1)) (h1 : cells ≤ kc) (h2 : slots ≤ ks) (hq : Q (some (.int z)) T.heap locs) : own_End p e below P (T.setTop (mkF m pc Ls (.int z :: rest))) := by
  obtain ⟨fs, hr, hrun, hended, hW⟩ := X.leaveW hS (by rw [eT]; exact hk) (v := some (.int z)) (fun h => by rw [hret] at h; cases h) hlk
  exact ⟨_, _, retI X hx hret hd hr, hrun, hended, hP _ _ locs hq (own_monoW hW h1 h2)⟩
theorem own_retRW (X : Stand p l e R (s.setVm vm0) m args below meth c T locs cells slots) (hS : s.Since vm0 k0) (hk : k0 ≤ h.size) (eT : T.heap = h) (hx : p.tables.exec = Jvm.exec) (hlk : meth.locks = false) {kc ks : Nat} {Q : Option Value → Heap → List Loc → Prop} (hP : own_OkW Q s kc ks P)
    {pc : Nat} {Ls : Array Slot} {w : Value} {t : FieldType} {rest : List Value} (hw : w.isRef = true) (ht : t.isReference = true) (hret : meth.sig.returnType = some t) (hd : decode c.code pc = .ok (.areturn, 1)) (h1 : cells ≤ kc) (h2 : slots ≤ ks) (hq : Q (some w) T.heap locs) : own_End p e below P (T.setTop (mkF m pc Ls (w :: rest))) := by
  obtain ⟨fs, hr, hrun, hended, hW⟩ := X.leaveW hS (by rw [eT]; exact hk) (v := some w) (fun h => by rw [hret] at h; cases h) hlk
  have hn : narrow t w = w := by rcases ref_cases hw with rfl | ⟨a, rfl⟩ <;> cases t <;> rfl
  exact ⟨_, _, retOut X hx hret hn (Or.inr (Or.inr (Or.inr (Or.inr ⟨rfl, ht, hw⟩)))) hd hr, hrun, hended, hP _ _ locs hq (own_monoW hW h1 h2)⟩
theorem own_callIW (X : Stand p l e R (s.setVm vm0) m args below meth c T locs cells slots) (hS : s.Since vm0 k0) (hk : k0 ≤ h.size) (hx : p.tables.exec = Jvm.exec) (hZ : Z.Warmed39 (s.setVm vm0).vm) {own : String} {index : Nat} {y : MethodName} {bytes : ByteArray} {maxL : Nat} {rm : Room} {as' : Array Value} {Q : Option Value → Heap → List Loc → Prop}
    (hy1 : y.name = "<init>") (hown : (s.setVm vm0).vm.findClass own = some m.cls) (w1 : (Jvm.Cond.methodLink own index y).before a0 Z = true) (w2 : (Jvm.Cond.instanceMethod y).before a0 Z = true) (w3 : (Jvm.Cond.initialized y.cls).before a0 Z = true) (w4 : (Jvm.Cond.code y bytes maxL none).before a0 Z = true) (hy : y.cls ≠ "java/lang/invoke/MethodHandle" ∧ y.cls ≠ "java/lang/invoke/VarHandle")
    (hM : own_MetW l Z y bytes maxL none [] rm as' h Q) (W : Nat) (hf : rm.frames + 1 ≤ R.frames) (hl : W + (maxL + 11) + rm.locals ≤ R.locals) (eT : T.heap = h) (hc : cells + rm.cells ≤ R.cells) (hs : slots + rm.slots ≤ R.slots)
    {g : JFrame} (hg : g.method = m) (hsize : g.locals.size = c.maxLocals) {a : Addr} {argsL rest : List Value} (ha : (Value.ref a :: argsL).toArray = as') (hlen : ∀ sig, parseMethodDescriptor y.desc = some sig → argsL.length = sig.parameters.length) (hstack : g.stack = argsL.reverse ++ .ref a :: rest) (hW : 2 * g.monitorRoom + (rest.map fun v => v.category).sum ≤ W) (hdg : decode c.code g.pc = .ok (.invokespecial index, 3))
    (k : ∀ v T' L, Stand p l e R (s.setVm T'.vm) m args below meth c T' (locs ++ L) (cells + rm.cells) (slots + rm.slots) → Q v T'.heap L → s.Since T'.vm T'.heap.size → Z.Warmed39 (s.setVm T'.vm).vm → (s.setVm T'.vm).vm.findClass own = some m.cls → own_End p e below P (T'.setTop { g with pc := g.pc + 3, stack := v.toList ++ rest })) : own_End p e below P (T.setTop g) := by
  obtain ⟨v, vm₁, ⟨T', L', k', n'⟩, -, X', hS', hg', ⟨L, hQ, h1, h2, h3⟩, st⟩ := X.specialBackS hx hy1 hown (mvT hZ w1) (mvT hZ w2) (mvT hZ w4) hy (backOfS (W := W) hM hZ w4 w3 hf hl) hg hsize (Steps.refl _) hlen hstack hW hdg (fun _ _ => ⟨ha, eT, hc, hs⟩)
  dsimp only [Pt.U, Pt.locs, Pt.cells, Pt.slots] at X' h1 h2 h3 st hQ hS' hg'
  subst h1 h2 h3
  obtain ⟨q1, q2, q3, q4⟩ := rebS hS (by rw [← eT] at hk; exact hk) X' hS' hg' hZ hown
  exact own_tr st (k v T' L q1 hQ q2 q3 q4)
theorem own_callSW (X : Stand p l e R (s.setVm vm0) m args below meth c T locs cells slots) (hS : s.Since vm0 k0) (hk : k0 ≤ h.size) (hx : p.tables.exec = Jvm.exec) (hZ : Z.Warmed39 (s.setVm vm0).vm) {own : String} {index : Nat} {y : MethodName} {bytes : ByteArray} {maxL : Nat} {rt : Option FieldType} {rm : Room} {as' : Array Value} {Q : Option Value → Heap → List Loc → Prop}
    (hown : (s.setVm vm0).vm.findClass own = some m.cls) (w1 : (Jvm.Cond.methodLink own index y).before a0 Z = true) (w2 : (Jvm.Cond.static y).before a0 Z = true) (w3 : (Jvm.Cond.initialized y.cls).before a0 Z = true) (w4 : (Jvm.Cond.code y bytes maxL rt).before a0 Z = true) (hy : y.cls ≠ "java/lang/invoke/MethodHandle" ∧ y.cls ≠ "java/lang/invoke/VarHandle")
    (hM : own_MetW l Z y bytes maxL rt [] rm as' h Q) (W : Nat) (hf : rm.frames + 1 ≤ R.frames) (hl : W + (maxL + 11) + rm.locals ≤ R.locals) (eT : T.heap = h) (hc : cells + rm.cells ≤ R.cells) (hs : slots + rm.slots ≤ R.slots)
    {g : JFrame} (hg : g.method = m) (hsize : g.locals.size = c.maxLocals) {argsL rest : List Value} (ha : argsL.toArray = as') (hlen : ∀ sig, parseMethodDescriptor y.desc = some sig → argsL.length = sig.parameters.length) (hstack : g.stack = argsL.reverse ++ rest) (hW : 2 * g.monitorRoom + (rest.map fun v => v.category).sum ≤ W) (hdg : decode c.code g.pc = .ok (.invokestatic index, 3))
    (k : ∀ v T' L, Stand p l e R (s.setVm T'.vm) m args below meth c T' (locs ++ L) (cells + rm.cells) (slots + rm.slots) → Q v T'.heap L → s.Since T'.vm T'.heap.size → Z.Warmed39 (s.setVm T'.vm).vm → (s.setVm T'.vm).vm.findClass own = some m.cls → own_End p e below P (T'.setTop { g with pc := g.pc + 3, stack := v.toList ++ rest })) : own_End p e below P (T.setTop g) := by
  obtain ⟨v, vm₁, ⟨T', L', k', n'⟩, -, X', hS', hg', ⟨L, hQ, h1, h2, h3⟩, st⟩ := callSS X hx hown (mvT hZ w1) (mvT hZ w2) (mvT hZ w3) (mvT hZ w4) hy (backOfS (W := W) hM hZ w4 w3 hf hl) hg hsize hlen hstack hW hdg (fun _ _ => ⟨ha, eT, hc, hs⟩)
  dsimp only [Pt.U, Pt.locs, Pt.cells, Pt.slots] at X' h1 h2 h3 st hQ hS' hg'
  subst h1 h2 h3
  obtain ⟨q1, q2, q3, q4⟩ := rebS hS (by rw [← eT] at hk; exact hk) X' hS' hg' hZ hown
  exact own_tr st (k v T' L q1 hQ q2 q3 q4)
end OwnW
theorem own_wS {Z : State} {a0 : Array Value} (hw : ∀ d ∈ tables_1, d.before a0 Z = true) : ∀ a ∈ Bundle.stringAtoms, a.before a0 Z = true := by
  intro d hd
  simp only [Bundle.stringAtoms, List.mem_cons, List.not_mem_nil, or_false] at hd
  rcases hd with rfl | rfl | rfl | rfl | rfl | rfl | rfl
  · exact (hw _ (List.mem_of_getElem? (i := 5) rfl))
  · exact (hw _ (List.mem_of_getElem? (i := 6) rfl))
  · exact (hw _ (List.mem_of_getElem? (i := 7) rfl))
  · exact (hw _ (List.mem_of_getElem? (i := 8) rfl))
  · exact (hw _ (List.mem_of_getElem? (i := 9) rfl))
  · exact (hw _ (List.mem_of_getElem? (i := 10) rfl))
  · exact (hw _ (List.mem_of_getElem? (i := 11) rfl))
/-! walks that read String constants: the library's invariant CHv rides along -/
def own_OkH (Z : State) (EL : List (String × Nat)) (Q : Option Value → Heap → List Loc → Prop) (s : State) (kc ks : Nat) (P : Outcome → State → Prop) : Prop := ∀ v U L, Q v U.heap L → CHr Z EL s.vm s.heap U.vm U.heap → ReturnedEndW s (.returned v) U L kc ks → P (.returned v) U
abbrev own_MetH (l : Launch) (Z : State) (EL : List (String × Nat)) (y : MethodName) (bytes : ByteArray) (maxL : Nat) (rt : Option FieldType) (ws : List Jvm.Cond) (rm : Room) (as' : Array Value) (h0 : Heap) (Q : Option Value → Heap → List Loc → Prop) : Prop :=
  MetFree l y (head1 (Jvm.Cond.code y bytes maxL rt :: ws) rm) (fun a U => a = as' ∧ Z.Warmed39 U.vm ∧ U.heap = h0 ∧ CHv Z EL U.vm h0) (fun _ _ _ _ _ => True) (fun _ U o U' => ∃ v L, o = .returned v ∧ Q v U'.heap L ∧ CHr Z EL U.vm U.heap U'.vm U'.heap ∧ ReturnedEndW U o U' L rm.cells rm.slots)
section OwnH
variable {p : Program} {l : Launch} {e : Env} {R : Room} {s : State} {m : MethodId} {args : Array Value} {below : List Frame} {meth : Method} {c : Code} {T : State} {locs : List Loc} {cells slots : Nat} {Z : State} {a0 : Array Value} {h : Heap} {P : Outcome → State → Prop} {vm0 : Vm} {k0 : Nat} {EL : List (String × Nat)}
theorem own_enterH {y : MethodName} {bytes : ByteArray} {maxL : Nat} {rt : Option FieldType} {ws : List Jvm.Cond} {rm : Room} {as' : Array Value} {h0 : Heap} {Q : Option Value → Heap → List Loc → Prop} (hpl : plainFor y = true)
    (body : ∀ (p : Program) (e : Env) (s : State) (m : MethodId) (below : List Frame) (meth : Method) (c : Code) (s₁ : State) (P : Outcome → State → Prop) (vm0 : Vm) (k0 : Nat), p.tables.exec = Jvm.exec → c.code = bytes → c.maxLocals = maxL → meth.sig.returnType = rt → meth.locks = false → (s.setVm vm0).vm.findClass y.cls = some m.cls → meth.name = y.name → Z.Warmed39 (s.setVm vm0).vm →
      Stand p l e rm (s.setVm vm0) m as' below meth c s₁ [] 0 0 → s₁.heap = h0 → s.Since vm0 k0 → k0 ≤ h0.size → CHr Z EL s.vm s.heap vm0 h0 → own_OkH Z EL Q s rm.cells rm.slots P → own_End p e below P (s₁.setTop (entryFrame m as' maxL))) :
    own_MetH l Z EL y bytes maxL rt ws rm as' h0 Q := by
  refine MetFree.of_bodySF hpl hisR ?_
  intro p e s m args below meth c s₁ Bd hml0 hP hK
  obtain ⟨rfl, hZ, hh, hC⟩ := hP
  exact body p e s m below meth c s₁ _ s.vm s.heap.size Bd.exec Bd.bytes hml0 Bd.returns Bd.notSynchronized (findClass_of_methodNamed Bd.named) (name_of_methodNamed Bd.named Bd.method).1 hZ (Stand.of_body Bd) (by rw [← hh, Bd.state]; rfl) ((State.WarmedH.refl s).since _) (by rw [hh]; exact Nat.le_refl _) (by subst hh; exact CHr.refl hC) (fun v U L q r f => ⟨v, L, rfl, q, r, f⟩)
theorem own_retNH (X : Stand p l e R (s.setVm vm0) m args below meth c T locs cells slots) (hS : s.Since vm0 k0) (hk : k0 ≤ h.size) (eT : T.heap = h) (hZ : Z.Warmed39 (s.setVm vm0).vm) (hEL : EW Z a0 EL) (hC : CHr Z EL s.vm s.heap vm0 h) (hx : p.tables.exec = Jvm.exec) (hlk : meth.locks = false) {kc ks : Nat} {Q : Option Value → Heap → List Loc → Prop} (hP : own_OkH Z EL Q s kc ks P)
    {pc : Nat} {Ls : Array Slot} {z : Int32} {t : FieldType} {rest : List Value} (ht : t = .boolean ∨ t = .byte ∨ t = .char ∨ t = .short) (hret : meth.sig.returnType = some t) (hd : decode c.code pc = .ok (.ireturn, 1)) (h1 : cells ≤ kc) (h2 : slots ≤ ks) (hq : Q (some (.int (nar t z))) T.heap locs) : own_End p e below P (T.setTop (mkF m pc Ls (.int z :: rest))) := by
  obtain ⟨fs, hr, hrun, hended, hW⟩ := X.leaveW hS (by rw [eT]; exact hk) (v := some (.int (nar t z))) (fun h => by rw [hret] at h; cases h) hlk
  have q : CHr Z EL s.vm s.heap T.vm T.heap := by rw [eT]; exact hC.trans (CHv.at X hZ hEL hC.1)
  exact ⟨_, _, retN X hx hret ht hd hr, hrun, hended, hP _ _ locs hq q (own_monoW hW h1 h2)⟩
theorem own_retRH (X : Stand p l e R (s.setVm vm0) m args below meth c T locs cells slots) (hS : s.Since vm0 k0) (hk : k0 ≤ h.size) (eT : T.heap = h) (hZ : Z.Warmed39 (s.setVm vm0).vm) (hEL : EW Z a0 EL) (hC : CHr Z EL s.vm s.heap vm0 h) (hx : p.tables.exec = Jvm.exec) (hlk : meth.locks = false) {kc ks : Nat} {Q : Option Value → Heap → List Loc → Prop} (hP : own_OkH Z EL Q s kc ks P)
    {pc : Nat} {Ls : Array Slot} {w : Value} {t : FieldType} {rest : List Value} (hw : w.isRef = true) (ht : t.isReference = true) (hret : meth.sig.returnType = some t) (hd : decode c.code pc = .ok (.areturn, 1)) (h1 : cells ≤ kc) (h2 : slots ≤ ks) (hq : Q (some w) T.heap locs) : own_End p e below P (T.setTop (mkF m pc Ls (w :: rest))) := by
  obtain ⟨fs, hr, hrun, hended, hW⟩ := X.leaveW hS (by rw [eT]; exact hk) (v := some w) (fun h => by rw [hret] at h; cases h) hlk
  have hn : narrow t w = w := by rcases ref_cases hw with rfl | ⟨a, rfl⟩ <;> cases t <;> rfl
  have q : CHr Z EL s.vm s.heap T.vm T.heap := by rw [eT]; exact hC.trans (CHv.at X hZ hEL hC.1)
  exact ⟨_, _, retOut X hx hret hn (Or.inr (Or.inr (Or.inr (Or.inr ⟨rfl, ht, hw⟩)))) hd hr, hrun, hended, hP _ _ locs hq q (own_monoW hW h1 h2)⟩
theorem own_callSH (X : Stand p l e R (s.setVm vm0) m args below meth c T locs cells slots) (hS : s.Since vm0 k0) (hk : k0 ≤ h.size) (hEL : EW Z a0 EL) (hC : CHr Z EL s.vm s.heap vm0 h) (hx : p.tables.exec = Jvm.exec) (hZ : Z.Warmed39 (s.setVm vm0).vm) {own : String} {index : Nat} {y : MethodName} {bytes : ByteArray} {maxL : Nat} {rt : Option FieldType} {rm : Room} {as' : Array Value} {Q : Option Value → Heap → List Loc → Prop}
    (hown : (s.setVm vm0).vm.findClass own = some m.cls) (w1 : (Jvm.Cond.methodLink own index y).before a0 Z = true) (w2 : (Jvm.Cond.static y).before a0 Z = true) (w3 : (Jvm.Cond.initialized y.cls).before a0 Z = true) (w4 : (Jvm.Cond.code y bytes maxL rt).before a0 Z = true) (hy : y.cls ≠ "java/lang/invoke/MethodHandle" ∧ y.cls ≠ "java/lang/invoke/VarHandle")
    (hM : own_MetH l Z EL y bytes maxL rt [] rm as' h Q) (W : Nat) (hf : rm.frames + 1 ≤ R.frames) (hl : W + (maxL + 11) + rm.locals ≤ R.locals) (eT : T.heap = h) (hc : cells + rm.cells ≤ R.cells) (hs : slots + rm.slots ≤ R.slots)
    {g : JFrame} (hg : g.method = m) (hsize : g.locals.size = c.maxLocals) {argsL rest : List Value} (ha : argsL.toArray = as') (hlen : ∀ sig, parseMethodDescriptor y.desc = some sig → argsL.length = sig.parameters.length) (hstack : g.stack = argsL.reverse ++ rest) (hW : 2 * g.monitorRoom + (rest.map fun v => v.category).sum ≤ W) (hdg : decode c.code g.pc = .ok (.invokestatic index, 3))
    (k : ∀ v T' L, Stand p l e R (s.setVm T'.vm) m args below meth c T' (locs ++ L) (cells + rm.cells) (slots + rm.slots) → Q v T'.heap L → s.Since T'.vm T'.heap.size → Z.Warmed39 (s.setVm T'.vm).vm → (s.setVm T'.vm).vm.findClass own = some m.cls → CHr Z EL s.vm s.heap T'.vm T'.heap → own_End p e below P (T'.setTop { g with pc := g.pc + 3, stack := v.toList ++ rest })) : own_End p e below P (T.setTop g) := by
  obtain ⟨v, vm₁, ⟨T', L', k', n'⟩, -, X', hS', hg', ⟨L, hQ, h1, h2, h3, h4⟩, st⟩ := callSS X hx hown (mvT hZ w1) (mvT hZ w2) (mvT hZ w3) (mvT hZ w4) hy (backOfSH (W := W) hM hZ w4 w3 hf hl hEL hC.1) hg hsize hlen hstack hW hdg (fun _ _ => ⟨ha, eT, hc, hs⟩)
  dsimp only [Pt.U, Pt.locs, Pt.cells, Pt.slots] at X' h1 h2 h3 h4 st hQ hS' hg'
  subst h1 h2 h3
  obtain ⟨q1, q2, q3, q4⟩ := rebS hS (by rw [← eT] at hk; exact hk) X' hS' hg' hZ hown
  exact own_tr st (k v T' L q1 hQ q2 q3 q4 (hC.trans h4))
theorem own_alenV (X : Stand p l e R s m args below meth c T locs cells slots) (hx : p.tables.exec = Jvm.exec) (hZ : Z.Warmed39 s.vm) (eT : T.heap = h) {a : Addr} {k : ClassId} {ty : FieldType} {z : Int32} {vs : List Value} {dv : Value} (F : Arv Z h a k ty z vs dv) {g : JFrame} (hg : g.method = m) {rest : List Value} (hs : g.stack = .ref a :: rest) (hd : decode c.code g.pc = .ok (.arraylength, 1))
    (r : own_End p e below P (T.setTop { g with pc := g.pc + 1, stack := .int z :: rest })) : own_End p e below P (T.setTop g) := by
  obtain ⟨cl, Ar, q1, S, N, H, G⟩ := F
  refine own_st (fun _ => X.arraylength hx (by rw [eT]; exact Ar.1) (State.isArrayOf_alike hZ.alike Ar.2.1) hg hs hd _) ?_
  rw [len_of S N]; exact r
theorem own_baloadV (X : Stand p l e R s m args below meth c T locs cells slots) (hx : p.tables.exec = Jvm.exec) (hZ : Z.Warmed39 s.vm) (eT : T.heap = h) {a : Addr} {k : ClassId} {z : Int32} {vs : List Value} {dv : Value} (F : Arv Z h a k .byte z vs dv) {j v : Int32} (hj : ¬ j < 0) (hi : j.toNatClampNeg < z.toNatClampNeg) (hv : vs.getD j.toNatClampNeg dv = .int v) {g : JFrame} (hg : g.method = m) {rest : List Value} (hs : g.stack = .int j :: .ref a :: rest) (hd : decode c.code g.pc = .ok (.baload, 1))
    (r : own_End p e below P (T.setTop { g with pc := g.pc + 1, stack := .int v :: rest })) : own_End p e below P (T.setTop g) := by
  obtain ⟨cl, Ar, q1, S, N, H, G⟩ := F
  have hin : ¬ (j < 0 ∨ cl.slots.size ≤ j.toNatClampNeg) := fun q => q.elim hj (fun y => by rw [S] at y; omega)
  refine own_st (fun _ => X.baloadBytes hx (by rw [eT]; exact Ar.1) (State.isArrayOf_alike hZ.alike Ar.2.1) Ar.2.2 hin (H.at hin (v := .int v) hv) hg hs hd _) ?_
  exact r
end OwnH
theorem own_EW {Z : State} {a0 : Array Value} (hw : ∀ d ∈ tables_1, d.before a0 Z = true) : EW Z a0 consts_1 := (EW.cons (hw _ (List.mem_of_getElem? (i := 4) rfl)) (by decide) EW.nil)
theorem own_dcan_0 : decode jdk_43_method_4_code 0 = .ok (.iload_n 0, 1) := by decide +kernel
theorem own_dcan_1 : decode jdk_43_method_4_code 1 = .ok (.ifCond .lt 14, 3) := by decide +kernel
theorem own_dcan_15 : decode jdk_43_method_4_code 15 = .ok (.iconst 0, 1) := by decide +kernel
theorem own_dcan_16 : decode jdk_43_method_4_code 16 = .ok (.ireturn, 1) := by decide +kernel
theorem own_dcan_4 : decode jdk_43_method_4_code 4 = .ok (.iload_n 0, 1) := by decide +kernel
theorem own_dcan_5 : decode jdk_43_method_4_code 5 = .ok (.sipush 255, 3) := by decide +kernel
theorem own_dcan_8 : decode jdk_43_method_4_code 8 = .ok (.if_icmp .gt 7, 3) := by decide +kernel
theorem own_dcan_11 : decode jdk_43_method_4_code 11 = .ok (.iconst 1, 1) := by decide +kernel
theorem own_dcan_12 : decode jdk_43_method_4_code 12 = .ok (.goto 4, 3) := by decide +kernel
theorem own_efcan (m : MethodId) (p0 : Int32) : entryFrame m #[(.int p0)] 1 = mkF m 0 #[.val (.int p0)] [] := by first | (simp [entryFrame, mkF, argsToLocals, Value.category]; done) | rfl
def own_fcan (p0 : Int32) : Int32 := (if p0 < (0 : Int32) then (0 : Int32) else (if (255 : Int32) < p0 then (0 : Int32) else (1 : Int32)))
theorem own_pn_java_lang_StringLatin1 : plainName "java/lang/StringLatin1" = true := by first | (simp [plainName, overriddenIn]; done) | decide +kernel
set_option maxRecDepth 65536 in
set_option maxHeartbeats 40000000 in
theorem own_mcan (l : Launch) (Z : State) (a0 : Array Value) (hw : ∀ d ∈ tables_1, d.before a0 Z = true) (ws : List Jvm.Cond) (p0 : Int32)  (h0 : Heap) (n0 : Nat) (Z0 : n0 ≤ h0.size)  :
    own_Met l Z (⟨"java/lang/StringLatin1", "canEncode", "(I)Z"⟩ : MethodName) jdk_43_method_4_code 1 (some .boolean) ws ({ frames := 0, cells := 0, slots := 0, locals := 0 } : Room) #[(.int p0)] h0 (fun (v : Option Value) (h : Heap) (L : List Loc) => v = some (.int (own_fcan p0)) ∧ Fr n0 L ∧ h = h0) := by
  refine own_enter (plainFor_of_name own_pn_java_lang_StringLatin1) ?_
  intro p e s m below meth c s₁ P hx hby hml hrt hlk hown hnm hZ X0 e0 hP
  have N0 := Fr.nil n0
  have K0 := Keep.refl h0 []
  have hml' : c.maxLocals = 1 := hml
  refine own_cast (own_efcan m p0) ?_
  show own_End p e below P (s₁.setTop (mkF m 0 #[.val (.int p0)] []))
  refine own_st (fun _ => XS.iloadN X0.here hx rfl (hb hby own_dcan_0) rfl) ?_
  show own_End p e below P (s₁.setTop (mkF m 1 #[.val (.int p0)] [(.int p0)]))
  by_cases hc1 : p0 < (0 : Int32)
  · refine own_st (fun _ => XS.ifYes X0.here hx rfl (pc0 := 1) (pc' := 15) rfl (hb hby own_dcan_1) rfl ((if0 _ _).trans (tlt hc1).1) (by decide) (by decide)) ?_
    show own_End p e below P (s₁.setTop (mkF m 15 #[.val (.int p0)] []))
    refine own_st (fun _ => XS.iconst X0.here hx rfl (hb hby own_dcan_15)) ?_
    show own_End p e below P (s₁.setTop (mkF m 16 #[.val (.int p0)] [(.int (0 : Int32))]))
    refine own_retN X0 hx hlk hP (t := .boolean) (by simp) hrt (hb hby own_dcan_16) (by decide) (by decide) ⟨congrArg (fun z => some (Value.int z)) ?_, N0, e0⟩
    exact (show own_fcan p0 = (0 : Int32) from (if_pos hc1).trans (rfl)).symm
  · refine own_st (fun _ => XS.ifNo X0.here hx rfl (hb hby own_dcan_1) rfl ((if0 _ _).trans (flt hc1).1)) ?_
    show own_End p e below P (s₁.setTop (mkF m 4 #[.val (.int p0)] []))
    refine own_st (fun _ => XS.iloadN X0.here hx rfl (hb hby own_dcan_4) rfl) ?_
    show own_End p e below P (s₁.setTop (mkF m 5 #[.val (.int p0)] [(.int p0)]))
    refine own_st (fun _ => XS.sipush X0.here hx rfl (hb hby own_dcan_5)) ?_
    show own_End p e below P (s₁.setTop (mkF m 8 #[.val (.int p0)] [(.int (255 : Int32)), (.int p0)]))
    by_cases hc2 : (255 : Int32) < p0
    · refine own_st (fun _ => XS.icmpYes X0.here hx rfl (pc0 := 8) (pc' := 15) rfl (hb hby own_dcan_8) rfl (tlt hc2).2.2.1 (by decide) (by decide)) ?_
      show own_End p e below P (s₁.setTop (mkF m 15 #[.val (.int p0)] []))
      refine own_st (fun _ => XS.iconst X0.here hx rfl (hb hby own_dcan_15)) ?_
      show own_End p e below P (s₁.setTop (mkF m 16 #[.val (.int p0)] [(.int (0 : Int32))]))
      refine own_retN X0 hx hlk hP (t := .boolean) (by simp) hrt (hb hby own_dcan_16) (by decide) (by decide) ⟨congrArg (fun z => some (Value.int z)) ?_, N0, e0⟩
      exact (show own_fcan p0 = (0 : Int32) from (if_neg hc1).trans ((if_pos hc2).trans (rfl))).symm
    · refine own_st (fun _ => XS.icmpNo X0.here hx rfl (hb hby own_dcan_8) rfl (flt hc2).2.2.1) ?_
      show own_End p e below P (s₁.setTop (mkF m 11 #[.val (.int p0)] []))
      refine own_st (fun _ => XS.iconst X0.here hx rfl (hb hby own_dcan_11)) ?_
      show own_End p e below P (s₁.setTop (mkF m 12 #[.val (.int p0)] [(.int (1 : Int32))]))
      refine own_st (fun _ => XS.goto X0.here hx rfl (pc0 := 12) (pc' := 16) rfl (hb hby own_dcan_12) (by decide) (by decide)) ?_
      show own_End p e below P (s₁.setTop (mkF m 16 #[.val (.int p0)] [(.int (1 : Int32))]))
      refine own_retN X0 hx hlk hP (t := .boolean) (by simp) hrt (hb hby own_dcan_16) (by decide) (by decide) ⟨congrArg (fun z => some (Value.int z)) ?_, N0, e0⟩
      exact (show own_fcan p0 = (1 : Int32) from (if_neg hc1).trans ((if_neg hc2).trans (rfl))).symm
theorem own_dmax_0 : decode jdk_29_method_65_code 0 = .ok (.iload_n 0, 1) := by decide +kernel
theorem own_dmax_1 : decode jdk_29_method_65_code 1 = .ok (.iload_n 1, 1) := by decide +kernel
theorem own_dmax_2 : decode jdk_29_method_65_code 2 = .ok (.if_icmp .lt 7, 3) := by decide +kernel
theorem own_dmax_9 : decode jdk_29_method_65_code 9 = .ok (.iload_n 1, 1) := by decide +kernel
theorem own_dmax_10 : decode jdk_29_method_65_code 10 = .ok (.ireturn, 1) := by decide +kernel
theorem own_dmax_5 : decode jdk_29_method_65_code 5 = .ok (.iload_n 0, 1) := by decide +kernel
theorem own_dmax_6 : decode jdk_29_method_65_code 6 = .ok (.goto 4, 3) := by decide +kernel
theorem own_efmax (m : MethodId) (p0 : Int32) (p1 : Int32) : entryFrame m #[(.int p0), (.int p1)] 2 = mkF m 0 #[.val (.int p0), .val (.int p1)] [] := by first | (simp [entryFrame, mkF, argsToLocals, Value.category]; done) | rfl
def own_fmax (p0 : Int32) (p1 : Int32) : Int32 := (if p0 < p1 then p1 else p0)
set_option maxRecDepth 65536 in
set_option maxHeartbeats 40000000 in
theorem own_mmax (l : Launch) (Z : State) (a0 : Array Value) (hw : ∀ d ∈ tables_1, d.before a0 Z = true) (ws : List Jvm.Cond) (p0 : Int32) (p1 : Int32)  (h0 : Heap) (n0 : Nat) (Z0 : n0 ≤ h0.size)  :
    own_Met l Z (⟨"java/lang/Math", "max", "(II)I"⟩ : MethodName) jdk_29_method_65_code 2 (some .int) ws ({ frames := 0, cells := 0, slots := 0, locals := 0 } : Room) #[(.int p0), (.int p1)] h0 (fun (v : Option Value) (h : Heap) (L : List Loc) => v = some (.int (own_fmax p0 p1)) ∧ Fr n0 L ∧ h = h0) := by
  refine own_enter (Jvm.Free.JP.mathPlain rfl (by decide +kernel)) ?_
  intro p e s m below meth c s₁ P hx hby hml hrt hlk hown hnm hZ X0 e0 hP
  have N0 := Fr.nil n0
  have K0 := Keep.refl h0 []
  have hml' : c.maxLocals = 2 := hml
  refine own_cast (own_efmax m p0 p1) ?_
  show own_End p e below P (s₁.setTop (mkF m 0 #[.val (.int p0), .val (.int p1)] []))
  refine own_st (fun _ => XS.iloadN X0.here hx rfl (hb hby own_dmax_0) rfl) ?_
  show own_End p e below P (s₁.setTop (mkF m 1 #[.val (.int p0), .val (.int p1)] [(.int p0)]))
  refine own_st (fun _ => XS.iloadN X0.here hx rfl (hb hby own_dmax_1) rfl) ?_
  show own_End p e below P (s₁.setTop (mkF m 2 #[.val (.int p0), .val (.int p1)] [(.int p1), (.int p0)]))
  by_cases hc1 : p0 < p1
  · refine own_st (fun _ => XS.icmpYes X0.here hx rfl (pc0 := 2) (pc' := 9) rfl (hb hby own_dmax_2) rfl (tlt hc1).1 (by decide) (by decide)) ?_
    show own_End p e below P (s₁.setTop (mkF m 9 #[.val (.int p0), .val (.int p1)] []))
    refine own_st (fun _ => XS.iloadN X0.here hx rfl (hb hby own_dmax_9) rfl) ?_
    show own_End p e below P (s₁.setTop (mkF m 10 #[.val (.int p0), .val (.int p1)] [(.int p1)]))
    refine own_retI X0 hx hlk hP hrt (hb hby own_dmax_10) (by decide) (by decide) ⟨congrArg (fun z => some (Value.int z)) ?_, N0, e0⟩
    exact (show own_fmax p0 p1 = p1 from (if_pos hc1).trans (rfl)).symm
  · refine own_st (fun _ => XS.icmpNo X0.here hx rfl (hb hby own_dmax_2) rfl (flt hc1).1) ?_
    show own_End p e below P (s₁.setTop (mkF m 5 #[.val (.int p0), .val (.int p1)] []))
    refine own_st (fun _ => XS.iloadN X0.here hx rfl (hb hby own_dmax_5) rfl) ?_
    show own_End p e below P (s₁.setTop (mkF m 6 #[.val (.int p0), .val (.int p1)] [(.int p0)]))
    refine own_st (fun _ => XS.goto X0.here hx rfl (pc0 := 6) (pc' := 10) rfl (hb hby own_dmax_6) (by decide) (by decide)) ?_
    show own_End p e below P (s₁.setTop (mkF m 10 #[.val (.int p0), .val (.int p1)] [(.int p0)]))
    refine own_retI X0 hx hlk hP hrt (hb hby own_dmax_10) (by decide) (by decide) ⟨congrArg (fun z => some (Value.int z)) ?_, N0, e0⟩
    exact (show own_fmax p0 p1 = p0 from (if_neg hc1).trans (rfl)).symm
theorem own_dmin_0 : decode jdk_29_method_69_code 0 = .ok (.iload_n 0, 1) := by decide +kernel
theorem own_dmin_1 : decode jdk_29_method_69_code 1 = .ok (.iload_n 1, 1) := by decide +kernel
theorem own_dmin_2 : decode jdk_29_method_69_code 2 = .ok (.if_icmp .gt 7, 3) := by decide +kernel
theorem own_dmin_9 : decode jdk_29_method_69_code 9 = .ok (.iload_n 1, 1) := by decide +kernel
theorem own_dmin_10 : decode jdk_29_method_69_code 10 = .ok (.ireturn, 1) := by decide +kernel
theorem own_dmin_5 : decode jdk_29_method_69_code 5 = .ok (.iload_n 0, 1) := by decide +kernel
theorem own_dmin_6 : decode jdk_29_method_69_code 6 = .ok (.goto 4, 3) := by decide +kernel
theorem own_efmin (m : MethodId) (p0 : Int32) (p1 : Int32) : entryFrame m #[(.int p0), (.int p1)] 2 = mkF m 0 #[.val (.int p0), .val (.int p1)] [] := by first | (simp [entryFrame, mkF, argsToLocals, Value.category]; done) | rfl
def own_fmin (p0 : Int32) (p1 : Int32) : Int32 := (if p1 < p0 then p1 else p0)
set_option maxRecDepth 65536 in
set_option maxHeartbeats 40000000 in
theorem own_mmin (l : Launch) (Z : State) (a0 : Array Value) (hw : ∀ d ∈ tables_1, d.before a0 Z = true) (ws : List Jvm.Cond) (p0 : Int32) (p1 : Int32)  (h0 : Heap) (n0 : Nat) (Z0 : n0 ≤ h0.size)  :
    own_Met l Z (⟨"java/lang/Math", "min", "(II)I"⟩ : MethodName) jdk_29_method_69_code 2 (some .int) ws ({ frames := 0, cells := 0, slots := 0, locals := 0 } : Room) #[(.int p0), (.int p1)] h0 (fun (v : Option Value) (h : Heap) (L : List Loc) => v = some (.int (own_fmin p0 p1)) ∧ Fr n0 L ∧ h = h0) := by
  refine own_enter (Jvm.Free.JP.mathPlain rfl (by decide +kernel)) ?_
  intro p e s m below meth c s₁ P hx hby hml hrt hlk hown hnm hZ X0 e0 hP
  have N0 := Fr.nil n0
  have K0 := Keep.refl h0 []
  have hml' : c.maxLocals = 2 := hml
  refine own_cast (own_efmin m p0 p1) ?_
  show own_End p e below P (s₁.setTop (mkF m 0 #[.val (.int p0), .val (.int p1)] []))
  refine own_st (fun _ => XS.iloadN X0.here hx rfl (hb hby own_dmin_0) rfl) ?_
  show own_End p e below P (s₁.setTop (mkF m 1 #[.val (.int p0), .val (.int p1)] [(.int p0)]))
  refine own_st (fun _ => XS.iloadN X0.here hx rfl (hb hby own_dmin_1) rfl) ?_
  show own_End p e below P (s₁.setTop (mkF m 2 #[.val (.int p0), .val (.int p1)] [(.int p1), (.int p0)]))
  by_cases hc1 : p1 < p0
  · refine own_st (fun _ => XS.icmpYes X0.here hx rfl (pc0 := 2) (pc' := 9) rfl (hb hby own_dmin_2) rfl (tlt hc1).2.2.1 (by decide) (by decide)) ?_
    show own_End p e below P (s₁.setTop (mkF m 9 #[.val (.int p0), .val (.int p1)] []))
    refine own_st (fun _ => XS.iloadN X0.here hx rfl (hb hby own_dmin_9) rfl) ?_
    show own_End p e below P (s₁.setTop (mkF m 10 #[.val (.int p0), .val (.int p1)] [(.int p1)]))
    refine own_retI X0 hx hlk hP hrt (hb hby own_dmin_10) (by decide) (by decide) ⟨congrArg (fun z => some (Value.int z)) ?_, N0, e0⟩
    exact (show own_fmin p0 p1 = p1 from (if_pos hc1).trans (rfl)).symm
  · refine own_st (fun _ => XS.icmpNo X0.here hx rfl (hb hby own_dmin_2) rfl (flt hc1).2.2.1) ?_
    show own_End p e below P (s₁.setTop (mkF m 5 #[.val (.int p0), .val (.int p1)] []))
    refine own_st (fun _ => XS.iloadN X0.here hx rfl (hb hby own_dmin_5) rfl) ?_
    show own_End p e below P (s₁.setTop (mkF m 6 #[.val (.int p0), .val (.int p1)] [(.int p0)]))
    refine own_st (fun _ => XS.goto X0.here hx rfl (pc0 := 6) (pc' := 10) rfl (hb hby own_dmin_6) (by decide) (by decide)) ?_
    show own_End p e below P (s₁.setTop (mkF m 10 #[.val (.int p0), .val (.int p1)] [(.int p0)]))
    refine own_retI X0 hx hlk hP hrt (hb hby own_dmin_10) (by decide) (by decide) ⟨congrArg (fun z => some (Value.int z)) ?_, N0, e0⟩
    exact (show own_fmin p0 p1 = p0 from (if_neg hc1).trans (rfl)).symm
theorem own_dixc_0 : decode jdk_43_method_23_code 0 = .ok (.iload_n 1, 1) := by decide +kernel
theorem own_dixc_1 : decode jdk_43_method_23_code 1 = .ok (.i2b, 1) := by decide +kernel
theorem own_dixc_2 : decode jdk_43_method_23_code 2 = .ok (.istore 4, 2) := by decide +kernel
theorem own_dixc_4 : decode jdk_43_method_23_code 4 = .ok (.iload_n 2, 1) := by decide +kernel
theorem own_dixc_5 : decode jdk_43_method_23_code 5 = .ok (.istore 5, 2) := by decide +kernel
theorem own_dixc_7 : decode jdk_43_method_23_code 7 = .ok (.iload 5, 2) := by decide +kernel
theorem own_dixc_9 : decode jdk_43_method_23_code 9 = .ok (.iload_n 3, 1) := by decide +kernel
theorem own_dixc_10 : decode jdk_43_method_23_code 10 = .ok (.if_icmp .ge 21, 3) := by decide +kernel
theorem own_dixc_13 : decode jdk_43_method_23_code 13 = .ok (.aload_n 0, 1) := by decide +kernel
theorem own_dixc_14 : decode jdk_43_method_23_code 14 = .ok (.iload 5, 2) := by decide +kernel
theorem own_dixc_16 : decode jdk_43_method_23_code 16 = .ok (.baload, 1) := by decide +kernel
theorem own_dixc_17 : decode jdk_43_method_23_code 17 = .ok (.iload 4, 2) := by decide +kernel
theorem own_dixc_19 : decode jdk_43_method_23_code 19 = .ok (.if_icmp .ne 6, 3) := by decide +kernel
theorem own_dixc_22 : decode jdk_43_method_23_code 22 = .ok (.iload 5, 2) := by decide +kernel
theorem own_dixc_24 : decode jdk_43_method_23_code 24 = .ok (.ireturn, 1) := by decide +kernel
theorem own_dixc_25 : decode jdk_43_method_23_code 25 = .ok (.iinc 5 1, 3) := by decide +kernel
theorem own_dixc_28 : decode jdk_43_method_23_code 28 = .ok (.goto (-21), 3) := by decide +kernel
theorem own_dixc_31 : decode jdk_43_method_23_code 31 = .ok (.iconst (-1), 1) := by decide +kernel
theorem own_dixc_32 : decode jdk_43_method_23_code 32 = .ok (.ireturn, 1) := by decide +kernel
theorem own_efixc (m : MethodId) (o0 : Addr) (p1 : Int32) : entryFrame m #[(.ref o0), (.int p1), (.int (0 : Int32)), (.int (15 : Int32))] 6 = mkF m 0 #[.val (.ref o0), .val (.int p1), .val (.int (0 : Int32)), .val (.int (15 : Int32)), .unset, .unset] [] := by first | (simp [entryFrame, mkF, argsToLocals, Value.category]; done) | rfl
def own_fixc (p1 : Int32) : Int32 := (if (33 : Int32) = (p1.toInt8.toInt32) then (0 : Int32) else (if (35 : Int32) = (p1.toInt8.toInt32) then (1 : Int32) else (if (36 : Int32) = (p1.toInt8.toInt32) then (2 : Int32) else (if (37 : Int32) = (p1.toInt8.toInt32) then (3 : Int32) else (if (38 : Int32) = (p1.toInt8.toInt32) then (4 : Int32) else (if (39 : Int32) = (p1.toInt8.toInt32) then (5 : Int32) else (if (42 : Int32) = (p1.toInt8.toInt32) then (6 : Int32) else (if (43 : Int32) = (p1.toInt8.toInt32) then (7 : Int32) else (if (45 : Int32) = (p1.toInt8.toInt32) then (8 : Int32) else (if (46 : Int32) = (p1.toInt8.toInt32) then (9 : Int32) else (if (94 : Int32) = (p1.toInt8.toInt32) then (10 : Int32) else (if (95 : Int32) = (p1.toInt8.toInt32) then (11 : Int32) else (if (96 : Int32) = (p1.toInt8.toInt32) then (12 : Int32) else (if (124 : Int32) = (p1.toInt8.toInt32) then (13 : Int32) else (if (126 : Int32) = (p1.toInt8.toInt32) then (14 : Int32) else (-1 : Int32))))))))))))))))
set_option maxRecDepth 65536 in
set_option maxHeartbeats 40000000 in
theorem own_mixc (l : Launch) (Z : State) (a0 : Array Value) (hw : ∀ d ∈ tables_1, d.before a0 Z = true) (ws : List Jvm.Cond) (o0 : Addr) (p1 : Int32) (k_o0 : ClassId) (h0 : Heap) (n0 : Nat) (Z0 : n0 ≤ h0.size) (V_o0 : Arv Z h0 o0 k_o0 .byte (15 : Int32) [(.int (33 : Int32)), (.int (35 : Int32)), (.int (36 : Int32)), (.int (37 : Int32)), (.int (38 : Int32)), (.int (39 : Int32)), (.int (42 : Int32)), (.int (43 : Int32)), (.int (45 : Int32)), (.int (46 : Int32)), (.int (94 : Int32)), (.int (95 : Int32)), (.int (96 : Int32)), (.int (124 : Int32)), (.int (126 : Int32))] (.int (0 : Int32))) :
    own_Met l Z (⟨"java/lang/StringLatin1", "indexOfChar", "([BIII)I"⟩ : MethodName) jdk_43_method_23_code 6 (some .int) ws ({ frames := 0, cells := 0, slots := 0, locals := 0 } : Room) #[(.ref o0), (.int p1), (.int (0 : Int32)), (.int (15 : Int32))] h0 (fun (v : Option Value) (h : Heap) (L : List Loc) => v = some (.int (own_fixc p1)) ∧ Fr n0 L ∧ h = h0) := by
  refine own_enter (plainFor_of_name own_pn_java_lang_StringLatin1) ?_
  intro p e s m below meth c s₁ P hx hby hml hrt hlk hown hnm hZ X0 e0 hP
  have N0 := Fr.nil n0
  have K0 := Keep.refl h0 []
  have hml' : c.maxLocals = 6 := hml
  refine own_cast (own_efixc m o0 p1) ?_
  show own_End p e below P (s₁.setTop (mkF m 0 #[.val (.ref o0), .val (.int p1), .val (.int (0 : Int32)), .val (.int (15 : Int32)), .unset, .unset] []))
  refine own_st (fun _ => XS.iloadN X0.here hx rfl (hb hby own_dixc_0) rfl) ?_
  show own_End p e below P (s₁.setTop (mkF m 1 #[.val (.ref o0), .val (.int p1), .val (.int (0 : Int32)), .val (.int (15 : Int32)), .unset, .unset] [(.int p1)]))
  refine own_st (fun _ => XS.i2b X0.here hx rfl (hb hby own_dixc_1) rfl) ?_
  show own_End p e below P (s₁.setTop (mkF m 2 #[.val (.ref o0), .val (.int p1), .val (.int (0 : Int32)), .val (.int (15 : Int32)), .unset, .unset] [(.int (p1.toInt8.toInt32))]))
  refine own_st (fun _ => XS.istore X0.here hx rfl (hb hby own_dixc_2) rfl (l' := #[.val (.ref o0), .val (.int p1), .val (.int (0 : Int32)), .val (.int (15 : Int32)), .val (.int (p1.toInt8.toInt32)), .unset]) rfl) ?_
  show own_End p e below P (s₁.setTop (mkF m 4 #[.val (.ref o0), .val (.int p1), .val (.int (0 : Int32)), .val (.int (15 : Int32)), .val (.int (p1.toInt8.toInt32)), .unset] []))
  refine own_st (fun _ => XS.iloadN X0.here hx rfl (hb hby own_dixc_4) rfl) ?_
  show own_End p e below P (s₁.setTop (mkF m 5 #[.val (.ref o0), .val (.int p1), .val (.int (0 : Int32)), .val (.int (15 : Int32)), .val (.int (p1.toInt8.toInt32)), .unset] [(.int (0 : Int32))]))
  refine own_st (fun _ => XS.istore X0.here hx rfl (hb hby own_dixc_5) rfl (l' := #[.val (.ref o0), .val (.int p1), .val (.int (0 : Int32)), .val (.int (15 : Int32)), .val (.int (p1.toInt8.toInt32)), .val (.int (0 : Int32))]) rfl) ?_
  show own_End p e below P (s₁.setTop (mkF m 7 #[.val (.ref o0), .val (.int p1), .val (.int (0 : Int32)), .val (.int (15 : Int32)), .val (.int (p1.toInt8.toInt32)), .val (.int (0 : Int32))] []))
  refine own_st (fun _ => XS.iload X0.here hx rfl (hb hby own_dixc_7) rfl) ?_
  show own_End p e below P (s₁.setTop (mkF m 9 #[.val (.ref o0), .val (.int p1), .val (.int (0 : Int32)), .val (.int (15 : Int32)), .val (.int (p1.toInt8.toInt32)), .val (.int (0 : Int32))] [(.int (0 : Int32))]))
  refine own_st (fun _ => XS.iloadN X0.here hx rfl (hb hby own_dixc_9) rfl) ?_
  show own_End p e below P (s₁.setTop (mkF m 10 #[.val (.ref o0), .val (.int p1), .val (.int (0 : Int32)), .val (.int (15 : Int32)), .val (.int (p1.toInt8.toInt32)), .val (.int (0 : Int32))] [(.int (15 : Int32)), (.int (0 : Int32))]))
  refine own_st (fun _ => XS.icmpNo X0.here hx rfl (hb hby own_dixc_10) rfl (tlt (by decide : (0 : Int32) < (15 : Int32))).2.1) ?_
  show own_End p e below P (s₁.setTop (mkF m 13 #[.val (.ref o0), .val (.int p1), .val (.int (0 : Int32)), .val (.int (15 : Int32)), .val (.int (p1.toInt8.toInt32)), .val (.int (0 : Int32))] []))
  refine own_st (fun _ => XS.aloadN X0.here hx rfl (hb hby own_dixc_13) rfl rfl) ?_
  show own_End p e below P (s₁.setTop (mkF m 14 #[.val (.ref o0), .val (.int p1), .val (.int (0 : Int32)), .val (.int (15 : Int32)), .val (.int (p1.toInt8.toInt32)), .val (.int (0 : Int32))] [(.ref o0)]))
  refine own_st (fun _ => XS.iload X0.here hx rfl (hb hby own_dixc_14) rfl) ?_
  show own_End p e below P (s₁.setTop (mkF m 16 #[.val (.ref o0), .val (.int p1), .val (.int (0 : Int32)), .val (.int (15 : Int32)), .val (.int (p1.toInt8.toInt32)), .val (.int (0 : Int32))] [(.int (0 : Int32)), (.ref o0)]))
  refine own_baloadV X0 hx hZ e0 V_o0 (j := (0 : Int32)) (v := (33 : Int32)) (by decide) (by decide) rfl (g := (mkF m 16 #[.val (.ref o0), .val (.int p1), .val (.int (0 : Int32)), .val (.int (15 : Int32)), .val (.int (p1.toInt8.toInt32)), .val (.int (0 : Int32))] [(.int (0 : Int32)), (.ref o0)])) rfl rfl (hb hby own_dixc_16) ?_
  show own_End p e below P (s₁.setTop (mkF m 17 #[.val (.ref o0), .val (.int p1), .val (.int (0 : Int32)), .val (.int (15 : Int32)), .val (.int (p1.toInt8.toInt32)), .val (.int (0 : Int32))] [(.int (33 : Int32))]))
  refine own_st (fun _ => XS.iload X0.here hx rfl (hb hby own_dixc_17) rfl) ?_
  show own_End p e below P (s₁.setTop (mkF m 19 #[.val (.ref o0), .val (.int p1), .val (.int (0 : Int32)), .val (.int (15 : Int32)), .val (.int (p1.toInt8.toInt32)), .val (.int (0 : Int32))] [(.int (p1.toInt8.toInt32)), (.int (33 : Int32))]))
  by_cases hc1 : (33 : Int32) = (p1.toInt8.toInt32)
  · refine own_st (fun _ => XS.icmpNo X0.here hx rfl (hb hby own_dixc_19) rfl (teq hc1).2) ?_
    show own_End p e below P (s₁.setTop (mkF m 22 #[.val (.ref o0), .val (.int p1), .val (.int (0 : Int32)), .val (.int (15 : Int32)), .val (.int (p1.toInt8.toInt32)), .val (.int (0 : Int32))] []))
    refine own_st (fun _ => XS.iload X0.here hx rfl (hb hby own_dixc_22) rfl) ?_
    show own_End p e below P (s₁.setTop (mkF m 24 #[.val (.ref o0), .val (.int p1), .val (.int (0 : Int32)), .val (.int (15 : Int32)), .val (.int (p1.toInt8.toInt32)), .val (.int (0 : Int32))] [(.int (0 : Int32))]))
    refine own_retI X0 hx hlk hP hrt (hb hby own_dixc_24) (by decide) (by decide) ⟨congrArg (fun z => some (Value.int z)) ?_, N0, e0⟩
    exact (show own_fixc p1 = (0 : Int32) from (if_pos hc1).trans (rfl)).symm
  · refine own_st (fun _ => XS.icmpYes X0.here hx rfl (pc0 := 19) (pc' := 25) rfl (hb hby own_dixc_19) rfl (feq hc1).2 (by decide) (by decide)) ?_
    show own_End p e below P (s₁.setTop (mkF m 25 #[.val (.ref o0), .val (.int p1), .val (.int (0 : Int32)), .val (.int (15 : Int32)), .val (.int (p1.toInt8.toInt32)), .val (.int (0 : Int32))] []))
    refine own_st (fun _ => XS.iinc X0.here hx rfl (hb hby own_dixc_25) rfl (l' := #[.val (.ref o0), .val (.int p1), .val (.int (0 : Int32)), .val (.int (15 : Int32)), .val (.int (p1.toInt8.toInt32)), .val (.int (1 : Int32))]) rfl) ?_
    show own_End p e below P (s₁.setTop (mkF m 28 #[.val (.ref o0), .val (.int p1), .val (.int (0 : Int32)), .val (.int (15 : Int32)), .val (.int (p1.toInt8.toInt32)), .val (.int (1 : Int32))] []))
    refine own_st (fun _ => XS.goto X0.here hx rfl (pc0 := 28) (pc' := 7) rfl (hb hby own_dixc_28) (by decide) (by decide)) ?_
    show own_End p e below P (s₁.setTop (mkF m 7 #[.val (.ref o0), .val (.int p1), .val (.int (0 : Int32)), .val (.int (15 : Int32)), .val (.int (p1.toInt8.toInt32)), .val (.int (1 : Int32))] []))
    refine own_st (fun _ => XS.iload X0.here hx rfl (hb hby own_dixc_7) rfl) ?_
    show own_End p e below P (s₁.setTop (mkF m 9 #[.val (.ref o0), .val (.int p1), .val (.int (0 : Int32)), .val (.int (15 : Int32)), .val (.int (p1.toInt8.toInt32)), .val (.int (1 : Int32))] [(.int (1 : Int32))]))
    refine own_st (fun _ => XS.iloadN X0.here hx rfl (hb hby own_dixc_9) rfl) ?_
    show own_End p e below P (s₁.setTop (mkF m 10 #[.val (.ref o0), .val (.int p1), .val (.int (0 : Int32)), .val (.int (15 : Int32)), .val (.int (p1.toInt8.toInt32)), .val (.int (1 : Int32))] [(.int (15 : Int32)), (.int (1 : Int32))]))
    refine own_st (fun _ => XS.icmpNo X0.here hx rfl (hb hby own_dixc_10) rfl (tlt (by decide : (1 : Int32) < (15 : Int32))).2.1) ?_
    show own_End p e below P (s₁.setTop (mkF m 13 #[.val (.ref o0), .val (.int p1), .val (.int (0 : Int32)), .val (.int (15 : Int32)), .val (.int (p1.toInt8.toInt32)), .val (.int (1 : Int32))] []))
    refine own_st (fun _ => XS.aloadN X0.here hx rfl (hb hby own_dixc_13) rfl rfl) ?_
    show own_End p e below P (s₁.setTop (mkF m 14 #[.val (.ref o0), .val (.int p1), .val (.int (0 : Int32)), .val (.int (15 : Int32)), .val (.int (p1.toInt8.toInt32)), .val (.int (1 : Int32))] [(.ref o0)]))
    refine own_st (fun _ => XS.iload X0.here hx rfl (hb hby own_dixc_14) rfl) ?_
    show own_End p e below P (s₁.setTop (mkF m 16 #[.val (.ref o0), .val (.int p1), .val (.int (0 : Int32)), .val (.int (15 : Int32)), .val (.int (p1.toInt8.toInt32)), .val (.int (1 : Int32))] [(.int (1 : Int32)), (.ref o0)]))
    refine own_baloadV X0 hx hZ e0 V_o0 (j := (1 : Int32)) (v := (35 : Int32)) (by decide) (by decide) rfl (g := (mkF m 16 #[.val (.ref o0), .val (.int p1), .val (.int (0 : Int32)), .val (.int (15 : Int32)), .val (.int (p1.toInt8.toInt32)), .val (.int (1 : Int32))] [(.int (1 : Int32)), (.ref o0)])) rfl rfl (hb hby own_dixc_16) ?_
    show own_End p e below P (s₁.setTop (mkF m 17 #[.val (.ref o0), .val (.int p1), .val (.int (0 : Int32)), .val (.int (15 : Int32)), .val (.int (p1.toInt8.toInt32)), .val (.int (1 : Int32))] [(.int (35 : Int32))]))
    refine own_st (fun _ => XS.iload X0.here hx rfl (hb hby own_dixc_17) rfl) ?_
    show own_End p e below P (s₁.setTop (mkF m 19 #[.val (.ref o0), .val (.int p1), .val (.int (0 : Int32)), .val (.int (15 : Int32)), .val (.int (p1.toInt8.toInt32)), .val (.int (1 : Int32))] [(.int (p1.toInt8.toInt32)), (.int (35 : Int32))]))
    by_cases hc2 : (35 : Int32) = (p1.toInt8.toInt32)
    · refine own_st (fun _ => XS.icmpNo X0.here hx rfl (hb hby own_dixc_19) rfl (teq hc2).2) ?_
      show own_End p e below P (s₁.setTop (mkF m 22 #[.val (.ref o0), .val (.int p1), .val (.int (0 : Int32)), .val (.int (15 : Int32)), .val (.int (p1.toInt8.toInt32)), .val (.int (1 : Int32))] []))
      refine own_st (fun _ => XS.iload X0.here hx rfl (hb hby own_dixc_22) rfl) ?_
      show own_End p e below P (s₁.setTop (mkF m 24 #[.val (.ref o0), .val (.int p1), .val (.int (0 : Int32)), .val (.int (15 : Int32)), .val (.int (p1.toInt8.toInt32)), .val (.int (1 : Int32))] [(.int (1 : Int32))]))
      refine own_retI X0 hx hlk hP hrt (hb hby own_dixc_24) (by decide) (by decide) ⟨congrArg (fun z => some (Value.int z)) ?_, N0, e0⟩
      exact (show own_fixc p1 = (1 : Int32) from (if_neg hc1).trans ((if_pos hc2).trans (rfl))).symm
    · refine own_st (fun _ => XS.icmpYes X0.here hx rfl (pc0 := 19) (pc' := 25) rfl (hb hby own_dixc_19) rfl (feq hc2).2 (by decide) (by decide)) ?_
      show own_End p e below P (s₁.setTop (mkF m 25 #[.val (.ref o0), .val (.int p1), .val (.int (0 : Int32)), .val (.int (15 : Int32)), .val (.int (p1.toInt8.toInt32)), .val (.int (1 : Int32))] []))
      refine own_st (fun _ => XS.iinc X0.here hx rfl (hb hby own_dixc_25) rfl (l' := #[.val (.ref o0), .val (.int p1), .val (.int (0 : Int32)), .val (.int (15 : Int32)), .val (.int (p1.toInt8.toInt32)), .val (.int (2 : Int32))]) rfl) ?_
      show own_End p e below P (s₁.setTop (mkF m 28 #[.val (.ref o0), .val (.int p1), .val (.int (0 : Int32)), .val (.int (15 : Int32)), .val (.int (p1.toInt8.toInt32)), .val (.int (2 : Int32))] []))
      refine own_st (fun _ => XS.goto X0.here hx rfl (pc0 := 28) (pc' := 7) rfl (hb hby own_dixc_28) (by decide) (by decide)) ?_
      show own_End p e below P (s₁.setTop (mkF m 7 #[.val (.ref o0), .val (.int p1), .val (.int (0 : Int32)), .val (.int (15 : Int32)), .val (.int (p1.toInt8.toInt32)), .val (.int (2 : Int32))] []))
      refine own_st (fun _ => XS.iload X0.here hx rfl (hb hby own_dixc_7) rfl) ?_
      show own_End p e below P (s₁.setTop (mkF m 9 #[.val (.ref o0), .val (.int p1), .val (.int (0 : Int32)), .val (.int (15 : Int32)), .val (.int (p1.toInt8.toInt32)), .val (.int (2 : Int32))] [(.int (2 : Int32))]))
      refine own_st (fun _ => XS.iloadN X0.here hx rfl (hb hby own_dixc_9) rfl) ?_
      show own_End p e below P (s₁.setTop (mkF m 10 #[.val (.ref o0), .val (.int p1), .val (.int (0 : Int32)), .val (.int (15 : Int32)), .val (.int (p1.toInt8.toInt32)), .val (.int (2 : Int32))] [(.int (15 : Int32)), (.int (2 : Int32))]))
      refine own_st (fun _ => XS.icmpNo X0.here hx rfl (hb hby own_dixc_10) rfl (tlt (by decide : (2 : Int32) < (15 : Int32))).2.1) ?_
      show own_End p e below P (s₁.setTop (mkF m 13 #[.val (.ref o0), .val (.int p1), .val (.int (0 : Int32)), .val (.int (15 : Int32)), .val (.int (p1.toInt8.toInt32)), .val (.int (2 : Int32))] []))
      refine own_st (fun _ => XS.aloadN X0.here hx rfl (hb hby own_dixc_13) rfl rfl) ?_
      show own_End p e below P (s₁.setTop (mkF m 14 #[.val (.ref o0), .val (.int p1), .val (.int (0 : Int32)), .val (.int (15 : Int32)), .val (.int (p1.toInt8.toInt32)), .val (.int (2 : Int32))] [(.ref o0)]))
      refine own_st (fun _ => XS.iload X0.here hx rfl (hb hby own_dixc_14) rfl) ?_
      show own_End p e below P (s₁.setTop (mkF m 16 #[.val (.ref o0), .val (.int p1), .val (.int (0 : Int32)), .val (.int (15 : Int32)), .val (.int (p1.toInt8.toInt32)), .val (.int (2 : Int32))] [(.int (2 : Int32)), (.ref o0)]))
      refine own_baloadV X0 hx hZ e0 V_o0 (j := (2 : Int32)) (v := (36 : Int32)) (by decide) (by decide) rfl (g := (mkF m 16 #[.val (.ref o0), .val (.int p1), .val (.int (0 : Int32)), .val (.int (15 : Int32)), .val (.int (p1.toInt8.toInt32)), .val (.int (2 : Int32))] [(.int (2 : Int32)), (.ref o0)])) rfl rfl (hb hby own_dixc_16) ?_
      show own_End p e below P (s₁.setTop (mkF m 17 #[.val (.ref o0), .val (.int p1), .val (.int (0 : Int32)), .val (.int (15 : Int32)), .val (.int (p1.toInt8.toInt32)), .val (.int (2 : Int32))] [(.int (36 : Int32))]))
      refine own_st (fun _ => XS.iload X0.here hx rfl (hb hby own_dixc_17) rfl) ?_
      show own_End p e below P (s₁.setTop (mkF m 19 #[.val (.ref o0), .val (.int p1), .val (.int (0 : Int32)), .val (.int (15 : Int32)), .val (.int (p1.toInt8.toInt32)), .val (.int (2 : Int32))] [(.int (p1.toInt8.toInt32)), (.int (36 : Int32))]))
      by_cases hc3 : (36 : Int32) = (p1.toInt8.toInt32)
      · refine own_st (fun _ => XS.icmpNo X0.here hx rfl (hb hby own_dixc_19) rfl (teq hc3).2) ?_
        show own_End p e below P (s₁.setTop (mkF m 22 #[.val (.ref o0), .val (.int p1), .val (.int (0 : Int32)), .val (.int (15 : Int32)), .val (.int (p1.toInt8.toInt32)), .val (.int (2 : Int32))] []))
        refine own_st (fun _ => XS.iload X0.here hx rfl (hb hby own_dixc_22) rfl) ?_
        show own_End p e below P (s₁.setTop (mkF m 24 #[.val (.ref o0), .val (.int p1), .val (.int (0 : Int32)), .val (.int (15 : Int32)), .val (.int (p1.toInt8.toInt32)), .val (.int (2 : Int32))] [(.int (2 : Int32))]))
        refine own_retI X0 hx hlk hP hrt (hb hby own_dixc_24) (by decide) (by decide) ⟨congrArg (fun z => some (Value.int z)) ?_, N0, e0⟩
        exact (show own_fixc p1 = (2 : Int32) from (if_neg hc1).trans ((if_neg hc2).trans ((if_pos hc3).trans (rfl)))).symm
      · refine own_st (fun _ => XS.icmpYes X0.here hx rfl (pc0 := 19) (pc' := 25) rfl (hb hby own_dixc_19) rfl (feq hc3).2 (by decide) (by decide)) ?_
        show own_End p e below P (s₁.setTop (mkF m 25 #[.val (.ref o0), .val (.int p1), .val (.int (0 : Int32)), .val (.int (15 : Int32)), .val (.int (p1.toInt8.toInt32)), .val (.int (2 : Int32))] []))
        refine own_st (fun _ => XS.iinc X0.here hx rfl (hb hby own_dixc_25) rfl (l' := #[.val (.ref o0), .val (.int p1), .val (.int (0 : Int32)), .val (.int (15 : Int32)), .val (.int (p1.toInt8.toInt32)), .val (.int (3 : Int32))]) rfl) ?_
        show own_End p e below P (s₁.setTop (mkF m 28 #[.val (.ref o0), .val (.int p1), .val (.int (0 : Int32)), .val (.int (15 : Int32)), .val (.int (p1.toInt8.toInt32)), .val (.int (3 : Int32))] []))
        refine own_st (fun _ => XS.goto X0.here hx rfl (pc0 := 28) (pc' := 7) rfl (hb hby own_dixc_28) (by decide) (by decide)) ?_
        show own_End p e below P (s₁.setTop (mkF m 7 #[.val (.ref o0), .val (.int p1), .val (.int (0 : Int32)), .val (.int (15 : Int32)), .val (.int (p1.toInt8.toInt32)), .val (.int (3 : Int32))] []))
        refine own_st (fun _ => XS.iload X0.here hx rfl (hb hby own_dixc_7) rfl) ?_
        show own_End p e below P (s₁.setTop (mkF m 9 #[.val (.ref o0), .val (.int p1), .val (.int (0 : Int32)), .val (.int (15 : Int32)), .val (.int (p1.toInt8.toInt32)), .val (.int (3 : Int32))] [(.int (3 : Int32))]))
        refine own_st (fun _ => XS.iloadN X0.here hx rfl (hb hby own_dixc_9) rfl) ?_
        show own_End p e below P (s₁.setTop (mkF m 10 #[.val (.ref o0), .val (.int p1), .val (.int (0 : Int32)), .val (.int (15 : Int32)), .val (.int (p1.toInt8.toInt32)), .val (.int (3 : Int32))] [(.int (15 : Int32)), (.int (3 : Int32))]))
        refine own_st (fun _ => XS.icmpNo X0.here hx rfl (hb hby own_dixc_10) rfl (tlt (by decide : (3 : Int32) < (15 : Int32))).2.1) ?_
        show own_End p e below P (s₁.setTop (mkF m 13 #[.val (.ref o0), .val (.int p1), .val (.int (0 : Int32)), .val (.int (15 : Int32)), .val (.int (p1.toInt8.toInt32)), .val (.int (3 : Int32))] []))
        refine own_st (fun _ => XS.aloadN X0.here hx rfl (hb hby own_dixc_13) rfl rfl) ?_
        show own_End p e below P (s₁.setTop (mkF m 14 #[.val (.ref o0), .val (.int p1), .val (.int (0 : Int32)), .val (.int (15 : Int32)), .val (.int (p1.toInt8.toInt32)), .val (.int (3 : Int32))] [(.ref o0)]))
        refine own_st (fun _ => XS.iload X0.here hx rfl (hb hby own_dixc_14) rfl) ?_
        show own_End p e below P (s₁.setTop (mkF m 16 #[.val (.ref o0), .val (.int p1), .val (.int (0 : Int32)), .val (.int (15 : Int32)), .val (.int (p1.toInt8.toInt32)), .val (.int (3 : Int32))] [(.int (3 : Int32)), (.ref o0)]))
        refine own_baloadV X0 hx hZ e0 V_o0 (j := (3 : Int32)) (v := (37 : Int32)) (by decide) (by decide) rfl (g := (mkF m 16 #[.val (.ref o0), .val (.int p1), .val (.int (0 : Int32)), .val (.int (15 : Int32)), .val (.int (p1.toInt8.toInt32)), .val (.int (3 : Int32))] [(.int (3 : Int32)), (.ref o0)])) rfl rfl (hb hby own_dixc_16) ?_
        show own_End p e below P (s₁.setTop (mkF m 17 #[.val (.ref o0), .val (.int p1), .val (.int (0 : Int32)), .val (.int (15 : Int32)), .val (.int (p1.toInt8.toInt32)), .val (.int (3 : Int32))] [(.int (37 : Int32))]))
        refine own_st (fun _ => XS.iload X0.here hx rfl (hb hby own_dixc_17) rfl) ?_
        show own_End p e below P (s₁.setTop (mkF m 19 #[.val (.ref o0), .val (.int p1), .val (.int (0 : Int32)), .val (.int (15 : Int32)), .val (.int (p1.toInt8.toInt32)), .val (.int (3 : Int32))] [(.int (p1.toInt8.toInt32)), (.int (37 : Int32))]))
        by_cases hc4 : (37 : Int32) = (p1.toInt8.toInt32)
        · refine own_st (fun _ => XS.icmpNo X0.here hx rfl (hb hby own_dixc_19) rfl (teq hc4).2) ?_
          show own_End p e below P (s₁.setTop (mkF m 22 #[.val (.ref o0), .val (.int p1), .val (.int (0 : Int32)), .val (.int (15 : Int32)), .val (.int (p1.toInt8.toInt32)), .val (.int (3 : Int32))] []))
          refine own_st (fun _ => XS.iload X0.here hx rfl (hb hby own_dixc_22) rfl) ?_
          show own_End p e below P (s₁.setTop (mkF m 24 #[.val (.ref o0), .val (.int p1), .val (.int (0 : Int32)), .val (.int (15 : Int32)), .val (.int (p1.toInt8.toInt32)), .val (.int (3 : Int32))] [(.int (3 : Int32))]))
          refine own_retI X0 hx hlk hP hrt (hb hby own_dixc_24) (by decide) (by decide) ⟨congrArg (fun z => some (Value.int z)) ?_, N0, e0⟩
          exact (show own_fixc p1 = (3 : Int32) from (if_neg hc1).trans ((if_neg hc2).trans ((if_neg hc3).trans ((if_pos hc4).trans (rfl))))).symm
        · refine own_st (fun _ => XS.icmpYes X0.here hx rfl (pc0 := 19) (pc' := 25) rfl (hb hby own_dixc_19) rfl (feq hc4).2 (by decide) (by decide)) ?_
          show own_End p e below P (s₁.setTop (mkF m 25 #[.val (.ref o0), .val (.int p1), .val (.int (0 : Int32)), .val (.int (15 : Int32)), .val (.int (p1.toInt8.toInt32)), .val (.int (3 : Int32))] []))
          refine own_st (fun _ => XS.iinc X0.here hx rfl (hb hby own_dixc_25) rfl (l' := #[.val (.ref o0), .val (.int p1), .val (.int (0 : Int32)), .val (.int (15 : Int32)), .val (.int (p1.toInt8.toInt32)), .val (.int (4 : Int32))]) rfl) ?_
          show own_End p e below P (s₁.setTop (mkF m 28 #[.val (.ref o0), .val (.int p1), .val (.int (0 : Int32)), .val (.int (15 : Int32)), .val (.int (p1.toInt8.toInt32)), .val (.int (4 : Int32))] []))
          refine own_st (fun _ => XS.goto X0.here hx rfl (pc0 := 28) (pc' := 7) rfl (hb hby own_dixc_28) (by decide) (by decide)) ?_
          show own_End p e below P (s₁.setTop (mkF m 7 #[.val (.ref o0), .val (.int p1), .val (.int (0 : Int32)), .val (.int (15 : Int32)), .val (.int (p1.toInt8.toInt32)), .val (.int (4 : Int32))] []))
          refine own_st (fun _ => XS.iload X0.here hx rfl (hb hby own_dixc_7) rfl) ?_
          show own_End p e below P (s₁.setTop (mkF m 9 #[.val (.ref o0), .val (.int p1), .val (.int (0 : Int32)), .val (.int (15 : Int32)), .val (.int (p1.toInt8.toInt32)), .val (.int (4 : Int32))] [(.int (4 : Int32))]))
          refine own_st (fun _ => XS.iloadN X0.here hx rfl (hb hby own_dixc_9) rfl) ?_
          show own_End p e below P (s₁.setTop (mkF m 10 #[.val (.ref o0), .val (.int p1), .val (.int (0 : Int32)), .val (.int (15 : Int32)), .val (.int (p1.toInt8.toInt32)), .val (.int (4 : Int32))] [(.int (15 : Int32)), (.int (4 : Int32))]))
          refine own_st (fun _ => XS.icmpNo X0.here hx rfl (hb hby own_dixc_10) rfl (tlt (by decide : (4 : Int32) < (15 : Int32))).2.1) ?_
          show own_End p e below P (s₁.setTop (mkF m 13 #[.val (.ref o0), .val (.int p1), .val (.int (0 : Int32)), .val (.int (15 : Int32)), .val (.int (p1.toInt8.toInt32)), .val (.int (4 : Int32))] []))
          refine own_st (fun _ => XS.aloadN X0.here hx rfl (hb hby own_dixc_13) rfl rfl) ?_
          show own_End p e below P (s₁.setTop (mkF m 14 #[.val (.ref o0), .val (.int p1), .val (.int (0 : Int32)), .val (.int (15 : Int32)), .val (.int (p1.toInt8.toInt32)), .val (.int (4 : Int32))] [(.ref o0)]))
          refine own_st (fun _ => XS.iload X0.here hx rfl (hb hby own_dixc_14) rfl) ?_
          show own_End p e below P (s₁.setTop (mkF m 16 #[.val (.ref o0), .val (.int p1), .val (.int (0 : Int32)), .val (.int (15 : Int32)), .val (.int (p1.toInt8.toInt32)), .val (.int (4 : Int32))] [(.int (4 : Int32)), (.ref o0)]))
          refine own_baloadV X0 hx hZ e0 V_o0 (j := (4 : Int32)) (v := (38 : Int32)) (by decide) (by decide) rfl (g := (mkF m 16 #[.val (.ref o0), .val (.int p1), .val (.int (0 : Int32)), .val (.int (15 : Int32)), .val (.int (p1.toInt8.toInt32)), .val (.int (4 : Int32))] [(.int (4 : Int32)), (.ref o0)])) rfl rfl (hb hby own_dixc_16) ?_
          show own_End p e below P (s₁.setTop (mkF m 17 #[.val (.ref o0), .val (.int p1), .val (.int (0 : Int32)), .val (.int (15 : Int32)), .val (.int (p1.toInt8.toInt32)), .val (.int (4 : Int32))] [(.int (38 : Int32))]))
          refine own_st (fun _ => XS.iload X0.here hx rfl (hb hby own_dixc_17) rfl) ?_
          show own_End p e below P (s₁.setTop (mkF m 19 #[.val (.ref o0), .val (.int p1), .val (.int (0 : Int32)), .val (.int (15 : Int32)), .val (.int (p1.toInt8.toInt32)), .val (.int (4 : Int32))] [(.int (p1.toInt8.toInt32)), (.int (38 : Int32))]))
          by_cases hc5 : (38 : Int32) = (p1.toInt8.toInt32)
          · refine own_st (fun _ => XS.icmpNo X0.here hx rfl (hb hby own_dixc_19) rfl (teq hc5).2) ?_
            show own_End p e below P (s₁.setTop (mkF m 22 #[.val (.ref o0), .val (.int p1), .val (.int (0 : Int32)), .val (.int (15 : Int32)), .val (.int (p1.toInt8.toInt32)), .val (.int (4 : Int32))] []))
            refine own_st (fun _ => XS.iload X0.here hx rfl (hb hby own_dixc_22) rfl) ?_
            show own_End p e below P (s₁.setTop (mkF m 24 #[.val (.ref o0), .val (.int p1), .val (.int (0 : Int32)), .val (.int (15 : Int32)), .val (.int (p1.toInt8.toInt32)), .val (.int (4 : Int32))] [(.int (4 : Int32))]))
            refine own_retI X0 hx hlk hP hrt (hb hby own_dixc_24) (by decide) (by decide) ⟨congrArg (fun z => some (Value.int z)) ?_, N0, e0⟩
            exact (show own_fixc p1 = (4 : Int32) from (if_neg hc1).trans ((if_neg hc2).trans ((if_neg hc3).trans ((if_neg hc4).trans ((if_pos hc5).trans (rfl)))))).symm
          · refine own_st (fun _ => XS.icmpYes X0.here hx rfl (pc0 := 19) (pc' := 25) rfl (hb hby own_dixc_19) rfl (feq hc5).2 (by decide) (by decide)) ?_
            show own_End p e below P (s₁.setTop (mkF m 25 #[.val (.ref o0), .val (.int p1), .val (.int (0 : Int32)), .val (.int (15 : Int32)), .val (.int (p1.toInt8.toInt32)), .val (.int (4 : Int32))] []))
            refine own_st (fun _ => XS.iinc X0.here hx rfl (hb hby own_dixc_25) rfl (l' := #[.val (.ref o0), .val (.int p1), .val (.int (0 : Int32)), .val (.int (15 : Int32)), .val (.int (p1.toInt8.toInt32)), .val (.int (5 : Int32))]) rfl) ?_
            show own_End p e below P (s₁.setTop (mkF m 28 #[.val (.ref o0), .val (.int p1), .val (.int (0 : Int32)), .val (.int (15 : Int32)), .val (.int (p1.toInt8.toInt32)), .val (.int (5 : Int32))] []))
            refine own_st (fun _ => XS.goto X0.here hx rfl (pc0 := 28) (pc' := 7) rfl (hb hby own_dixc_28) (by decide) (by decide)) ?_
            show own_End p e below P (s₁.setTop (mkF m 7 #[.val (.ref o0), .val (.int p1), .val (.int (0 : Int32)), .val (.int (15 : Int32)), .val (.int (p1.toInt8.toInt32)), .val (.int (5 : Int32))] []))
            refine own_st (fun _ => XS.iload X0.here hx rfl (hb hby own_dixc_7) rfl) ?_
            show own_End p e below P (s₁.setTop (mkF m 9 #[.val (.ref o0), .val (.int p1), .val (.int (0 : Int32)), .val (.int (15 : Int32)), .val (.int (p1.toInt8.toInt32)), .val (.int (5 : Int32))] [(.int (5 : Int32))]))
            refine own_st (fun _ => XS.iloadN X0.here hx rfl (hb hby own_dixc_9) rfl) ?_
            show own_End p e below P (s₁.setTop (mkF m 10 #[.val (.ref o0), .val (.int p1), .val (.int (0 : Int32)), .val (.int (15 : Int32)), .val (.int (p1.toInt8.toInt32)), .val (.int (5 : Int32))] [(.int (15 : Int32)), (.int (5 : Int32))]))
            refine own_st (fun _ => XS.icmpNo X0.here hx rfl (hb hby own_dixc_10) rfl (tlt (by decide : (5 : Int32) < (15 : Int32))).2.1) ?_
            show own_End p e below P (s₁.setTop (mkF m 13 #[.val (.ref o0), .val (.int p1), .val (.int (0 : Int32)), .val (.int (15 : Int32)), .val (.int (p1.toInt8.toInt32)), .val (.int (5 : Int32))] []))
            refine own_st (fun _ => XS.aloadN X0.here hx rfl (hb hby own_dixc_13) rfl rfl) ?_
            show own_End p e below P (s₁.setTop (mkF m 14 #[.val (.ref o0), .val (.int p1), .val (.int (0 : Int32)), .val (.int (15 : Int32)), .val (.int (p1.toInt8.toInt32)), .val (.int (5 : Int32))] [(.ref o0)]))
            refine own_st (fun _ => XS.iload X0.here hx rfl (hb hby own_dixc_14) rfl) ?_
            show own_End p e below P (s₁.setTop (mkF m 16 #[.val (.ref o0), .val (.int p1), .val (.int (0 : Int32)), .val (.int (15 : Int32)), .val (.int (p1.toInt8.toInt32)), .val (.int (5 : Int32))] [(.int (5 : Int32)), (.ref o0)]))
            refine own_baloadV X0 hx hZ e0 V_o0 (j := (5 : Int32)) (v := (39 : Int32)) (by decide) (by decide) rfl (g := (mkF m 16 #[.val (.ref o0), .val (.int p1), .val (.int (0 : Int32)), .val (.int (15 : Int32)), .val (.int (p1.toInt8.toInt32)), .val (.int (5 : Int32))] [(.int (5 : Int32)), (.ref o0)])) rfl rfl (hb hby own_dixc_16) ?_
            show own_End p e below P (s₁.setTop (mkF m 17 #[.val (.ref o0), .val (.int p1), .val (.int (0 : Int32)), .val (.int (15 : Int32)), .val (.int (p1.toInt8.toInt32)), .val (.int (5 : Int32))] [(.int (39 : Int32))]))
            refine own_st (fun _ => XS.iload X0.here hx rfl (hb hby own_dixc_17) rfl) ?_
            show own_End p e below P (s₁.setTop (mkF m 19 #[.val (.ref o0), .val (.int p1), .val (.int (0 : Int32)), .val (.int (15 : Int32)), .val (.int (p1.toInt8.toInt32)), .val (.int (5 : Int32))] [(.int (p1.toInt8.toInt32)), (.int (39 : Int32))]))
            by_cases hc6 : (39 : Int32) = (p1.toInt8.toInt32)
            · refine own_st (fun _ => XS.icmpNo X0.here hx rfl (hb hby own_dixc_19) rfl (teq hc6).2) ?_
              show own_End p e below P (s₁.setTop (mkF m 22 #[.val (.ref o0), .val (.int p1), .val (.int (0 : Int32)), .val (.int (15 : Int32)), .val (.int (p1.toInt8.toInt32)), .val (.int (5 : Int32))] []))
              refine own_st (fun _ => XS.iload X0.here hx rfl (hb hby own_dixc_22) rfl) ?_
              show own_End p e below P (s₁.setTop (mkF m 24 #[.val (.ref o0), .val (.int p1), .val (.int (0 : Int32)), .val (.int (15 : Int32)), .val (.int (p1.toInt8.toInt32)), .val (.int (5 : Int32))] [(.int (5 : Int32))]))
              refine own_retI X0 hx hlk hP hrt (hb hby own_dixc_24) (by decide) (by decide) ⟨congrArg (fun z => some (Value.int z)) ?_, N0, e0⟩
              exact (show own_fixc p1 = (5 : Int32) from (if_neg hc1).trans ((if_neg hc2).trans ((if_neg hc3).trans ((if_neg hc4).trans ((if_neg hc5).trans ((if_pos hc6).trans (rfl))))))).symm
            · refine own_st (fun _ => XS.icmpYes X0.here hx rfl (pc0 := 19) (pc' := 25) rfl (hb hby own_dixc_19) rfl (feq hc6).2 (by decide) (by decide)) ?_
              show own_End p e below P (s₁.setTop (mkF m 25 #[.val (.ref o0), .val (.int p1), .val (.int (0 : Int32)), .val (.int (15 : Int32)), .val (.int (p1.toInt8.toInt32)), .val (.int (5 : Int32))] []))
              refine own_st (fun _ => XS.iinc X0.here hx rfl (hb hby own_dixc_25) rfl (l' := #[.val (.ref o0), .val (.int p1), .val (.int (0 : Int32)), .val (.int (15 : Int32)), .val (.int (p1.toInt8.toInt32)), .val (.int (6 : Int32))]) rfl) ?_
              show own_End p e below P (s₁.setTop (mkF m 28 #[.val (.ref o0), .val (.int p1), .val (.int (0 : Int32)), .val (.int (15 : Int32)), .val (.int (p1.toInt8.toInt32)), .val (.int (6 : Int32))] []))
              refine own_st (fun _ => XS.goto X0.here hx rfl (pc0 := 28) (pc' := 7) rfl (hb hby own_dixc_28) (by decide) (by decide)) ?_
              show own_End p e below P (s₁.setTop (mkF m 7 #[.val (.ref o0), .val (.int p1), .val (.int (0 : Int32)), .val (.int (15 : Int32)), .val (.int (p1.toInt8.toInt32)), .val (.int (6 : Int32))] []))
              refine own_st (fun _ => XS.iload X0.here hx rfl (hb hby own_dixc_7) rfl) ?_
              show own_End p e below P (s₁.setTop (mkF m 9 #[.val (.ref o0), .val (.int p1), .val (.int (0 : Int32)), .val (.int (15 : Int32)), .val (.int (p1.toInt8.toInt32)), .val (.int (6 : Int32))] [(.int (6 : Int32))]))
              refine own_st (fun _ => XS.iloadN X0.here hx rfl (hb hby own_dixc_9) rfl) ?_
              show own_End p e below P (s₁.setTop (mkF m 10 #[.val (.ref o0), .val (.int p1), .val (.int (0 : Int32)), .val (.int (15 : Int32)), .val (.int (p1.toInt8.toInt32)), .val (.int (6 : Int32))] [(.int (15 : Int32)), (.int (6 : Int32))]))
              refine own_st (fun _ => XS.icmpNo X0.here hx rfl (hb hby own_dixc_10) rfl (tlt (by decide : (6 : Int32) < (15 : Int32))).2.1) ?_
              show own_End p e below P (s₁.setTop (mkF m 13 #[.val (.ref o0), .val (.int p1), .val (.int (0 : Int32)), .val (.int (15 : Int32)), .val (.int (p1.toInt8.toInt32)), .val (.int (6 : Int32))] []))
              refine own_st (fun _ => XS.aloadN X0.here hx rfl (hb hby own_dixc_13) rfl rfl) ?_
              show own_End p e below P (s₁.setTop (mkF m 14 #[.val (.ref o0), .val (.int p1), .val (.int (0 : Int32)), .val (.int (15 : Int32)), .val (.int (p1.toInt8.toInt32)), .val (.int (6 : Int32))] [(.ref o0)]))
              refine own_st (fun _ => XS.iload X0.here hx rfl (hb hby own_dixc_14) rfl) ?_
              show own_End p e below P (s₁.setTop (mkF m 16 #[.val (.ref o0), .val (.int p1), .val (.int (0 : Int32)), .val (.int (15 : Int32)), .val (.int (p1.toInt8.toInt32)), .val (.int (6 : Int32))] [(.int (6 : Int32)), (.ref o0)]))
              refine own_baloadV X0 hx hZ e0 V_o0 (j := (6 : Int32)) (v := (42 : Int32)) (by decide) (by decide) rfl (g := (mkF m 16 #[.val (.ref o0), .val (.int p1), .val (.int (0 : Int32)), .val (.int (15 : Int32)), .val (.int (p1.toInt8.toInt32)), .val (.int (6 : Int32))] [(.int (6 : Int32)), (.ref o0)])) rfl rfl (hb hby own_dixc_16) ?_
              show own_End p e below P (s₁.setTop (mkF m 17 #[.val (.ref o0), .val (.int p1), .val (.int (0 : Int32)), .val (.int (15 : Int32)), .val (.int (p1.toInt8.toInt32)), .val (.int (6 : Int32))] [(.int (42 : Int32))]))
              refine own_st (fun _ => XS.iload X0.here hx rfl (hb hby own_dixc_17) rfl) ?_
              show own_End p e below P (s₁.setTop (mkF m 19 #[.val (.ref o0), .val (.int p1), .val (.int (0 : Int32)), .val (.int (15 : Int32)), .val (.int (p1.toInt8.toInt32)), .val (.int (6 : Int32))] [(.int (p1.toInt8.toInt32)), (.int (42 : Int32))]))
              by_cases hc7 : (42 : Int32) = (p1.toInt8.toInt32)
              · refine own_st (fun _ => XS.icmpNo X0.here hx rfl (hb hby own_dixc_19) rfl (teq hc7).2) ?_
                show own_End p e below P (s₁.setTop (mkF m 22 #[.val (.ref o0), .val (.int p1), .val (.int (0 : Int32)), .val (.int (15 : Int32)), .val (.int (p1.toInt8.toInt32)), .val (.int (6 : Int32))] []))
                refine own_st (fun _ => XS.iload X0.here hx rfl (hb hby own_dixc_22) rfl) ?_
                show own_End p e below P (s₁.setTop (mkF m 24 #[.val (.ref o0), .val (.int p1), .val (.int (0 : Int32)), .val (.int (15 : Int32)), .val (.int (p1.toInt8.toInt32)), .val (.int (6 : Int32))] [(.int (6 : Int32))]))
                refine own_retI X0 hx hlk hP hrt (hb hby own_dixc_24) (by decide) (by decide) ⟨congrArg (fun z => some (Value.int z)) ?_, N0, e0⟩
                exact (show own_fixc p1 = (6 : Int32) from (if_neg hc1).trans ((if_neg hc2).trans ((if_neg hc3).trans ((if_neg hc4).trans ((if_neg hc5).trans ((if_neg hc6).trans ((if_pos hc7).trans (rfl)))))))).symm
              · refine own_st (fun _ => XS.icmpYes X0.here hx rfl (pc0 := 19) (pc' := 25) rfl (hb hby own_dixc_19) rfl (feq hc7).2 (by decide) (by decide)) ?_
                show own_End p e below P (s₁.setTop (mkF m 25 #[.val (.ref o0), .val (.int p1), .val (.int (0 : Int32)), .val (.int (15 : Int32)), .val (.int (p1.toInt8.toInt32)), .val (.int (6 : Int32))] []))
                refine own_st (fun _ => XS.iinc X0.here hx rfl (hb hby own_dixc_25) rfl (l' := #[.val (.ref o0), .val (.int p1), .val (.int (0 : Int32)), .val (.int (15 : Int32)), .val (.int (p1.toInt8.toInt32)), .val (.int (7 : Int32))]) rfl) ?_
                show own_End p e below P (s₁.setTop (mkF m 28 #[.val (.ref o0), .val (.int p1), .val (.int (0 : Int32)), .val (.int (15 : Int32)), .val (.int (p1.toInt8.toInt32)), .val (.int (7 : Int32))] []))
                refine own_st (fun _ => XS.goto X0.here hx rfl (pc0 := 28) (pc' := 7) rfl (hb hby own_dixc_28) (by decide) (by decide)) ?_
                show own_End p e below P (s₁.setTop (mkF m 7 #[.val (.ref o0), .val (.int p1), .val (.int (0 : Int32)), .val (.int (15 : Int32)), .val (.int (p1.toInt8.toInt32)), .val (.int (7 : Int32))] []))
                refine own_st (fun _ => XS.iload X0.here hx rfl (hb hby own_dixc_7) rfl) ?_
                show own_End p e below P (s₁.setTop (mkF m 9 #[.val (.ref o0), .val (.int p1), .val (.int (0 : Int32)), .val (.int (15 : Int32)), .val (.int (p1.toInt8.toInt32)), .val (.int (7 : Int32))] [(.int (7 : Int32))]))
                refine own_st (fun _ => XS.iloadN X0.here hx rfl (hb hby own_dixc_9) rfl) ?_
                show own_End p e below P (s₁.setTop (mkF m 10 #[.val (.ref o0), .val (.int p1), .val (.int (0 : Int32)), .val (.int (15 : Int32)), .val (.int (p1.toInt8.toInt32)), .val (.int (7 : Int32))] [(.int (15 : Int32)), (.int (7 : Int32))]))
                refine own_st (fun _ => XS.icmpNo X0.here hx rfl (hb hby own_dixc_10) rfl (tlt (by decide : (7 : Int32) < (15 : Int32))).2.1) ?_
                show own_End p e below P (s₁.setTop (mkF m 13 #[.val (.ref o0), .val (.int p1), .val (.int (0 : Int32)), .val (.int (15 : Int32)), .val (.int (p1.toInt8.toInt32)), .val (.int (7 : Int32))] []))
                refine own_st (fun _ => XS.aloadN X0.here hx rfl (hb hby own_dixc_13) rfl rfl) ?_
                show own_End p e below P (s₁.setTop (mkF m 14 #[.val (.ref o0), .val (.int p1), .val (.int (0 : Int32)), .val (.int (15 : Int32)), .val (.int (p1.toInt8.toInt32)), .val (.int (7 : Int32))] [(.ref o0)]))
                refine own_st (fun _ => XS.iload X0.here hx rfl (hb hby own_dixc_14) rfl) ?_
                show own_End p e below P (s₁.setTop (mkF m 16 #[.val (.ref o0), .val (.int p1), .val (.int (0 : Int32)), .val (.int (15 : Int32)), .val (.int (p1.toInt8.toInt32)), .val (.int (7 : Int32))] [(.int (7 : Int32)), (.ref o0)]))
                refine own_baloadV X0 hx hZ e0 V_o0 (j := (7 : Int32)) (v := (43 : Int32)) (by decide) (by decide) rfl (g := (mkF m 16 #[.val (.ref o0), .val (.int p1), .val (.int (0 : Int32)), .val (.int (15 : Int32)), .val (.int (p1.toInt8.toInt32)), .val (.int (7 : Int32))] [(.int (7 : Int32)), (.ref o0)])) rfl rfl (hb hby own_dixc_16) ?_
                show own_End p e below P (s₁.setTop (mkF m 17 #[.val (.ref o0), .val (.int p1), .val (.int (0 : Int32)), .val (.int (15 : Int32)), .val (.int (p1.toInt8.toInt32)), .val (.int (7 : Int32))] [(.int (43 : Int32))]))
                refine own_st (fun _ => XS.iload X0.here hx rfl (hb hby own_dixc_17) rfl) ?_
                show own_End p e below P (s₁.setTop (mkF m 19 #[.val (.ref o0), .val (.int p1), .val (.int (0 : Int32)), .val (.int (15 : Int32)), .val (.int (p1.toInt8.toInt32)), .val (.int (7 : Int32))] [(.int (p1.toInt8.toInt32)), (.int (43 : Int32))]))
                by_cases hc8 : (43 : Int32) = (p1.toInt8.toInt32)
                · refine own_st (fun _ => XS.icmpNo X0.here hx rfl (hb hby own_dixc_19) rfl (teq hc8).2) ?_
                  show own_End p e below P (s₁.setTop (mkF m 22 #[.val (.ref o0), .val (.int p1), .val (.int (0 : Int32)), .val (.int (15 : Int32)), .val (.int (p1.toInt8.toInt32)), .val (.int (7 : Int32))] []))
                  refine own_st (fun _ => XS.iload X0.here hx rfl (hb hby own_dixc_22) rfl) ?_
                  show own_End p e below P (s₁.setTop (mkF m 24 #[.val (.ref o0), .val (.int p1), .val (.int (0 : Int32)), .val (.int (15 : Int32)), .val (.int (p1.toInt8.toInt32)), .val (.int (7 : Int32))] [(.int (7 : Int32))]))
                  refine own_retI X0 hx hlk hP hrt (hb hby own_dixc_24) (by decide) (by decide) ⟨congrArg (fun z => some (Value.int z)) ?_, N0, e0⟩
                  exact (show own_fixc p1 = (7 : Int32) from (if_neg hc1).trans ((if_neg hc2).trans ((if_neg hc3).trans ((if_neg hc4).trans ((if_neg hc5).trans ((if_neg hc6).trans ((if_neg hc7).trans ((if_pos hc8).trans (rfl))))))))).symm
                · refine own_st (fun _ => XS.icmpYes X0.here hx rfl (pc0 := 19) (pc' := 25) rfl (hb hby own_dixc_19) rfl (feq hc8).2 (by decide) (by decide)) ?_
                  show own_End p e below P (s₁.setTop (mkF m 25 #[.val (.ref o0), .val (.int p1), .val (.int (0 : Int32)), .val (.int (15 : Int32)), .val (.int (p1.toInt8.toInt32)), .val (.int (7 : Int32))] []))
                  refine own_st (fun _ => XS.iinc X0.here hx rfl (hb hby own_dixc_25) rfl (l' := #[.val (.ref o0), .val (.int p1), .val (.int (0 : Int32)), .val (.int (15 : Int32)), .val (.int (p1.toInt8.toInt32)), .val (.int (8 : Int32))]) rfl) ?_
                  show own_End p e below P (s₁.setTop (mkF m 28 #[.val (.ref o0), .val (.int p1), .val (.int (0 : Int32)), .val (.int (15 : Int32)), .val (.int (p1.toInt8.toInt32)), .val (.int (8 : Int32))] []))
                  refine own_st (fun _ => XS.goto X0.here hx rfl (pc0 := 28) (pc' := 7) rfl (hb hby own_dixc_28) (by decide) (by decide)) ?_
                  show own_End p e below P (s₁.setTop (mkF m 7 #[.val (.ref o0), .val (.int p1), .val (.int (0 : Int32)), .val (.int (15 : Int32)), .val (.int (p1.toInt8.toInt32)), .val (.int (8 : Int32))] []))
                  refine own_st (fun _ => XS.iload X0.here hx rfl (hb hby own_dixc_7) rfl) ?_
                  show own_End p e below P (s₁.setTop (mkF m 9 #[.val (.ref o0), .val (.int p1), .val (.int (0 : Int32)), .val (.int (15 : Int32)), .val (.int (p1.toInt8.toInt32)), .val (.int (8 : Int32))] [(.int (8 : Int32))]))
                  refine own_st (fun _ => XS.iloadN X0.here hx rfl (hb hby own_dixc_9) rfl) ?_
                  show own_End p e below P (s₁.setTop (mkF m 10 #[.val (.ref o0), .val (.int p1), .val (.int (0 : Int32)), .val (.int (15 : Int32)), .val (.int (p1.toInt8.toInt32)), .val (.int (8 : Int32))] [(.int (15 : Int32)), (.int (8 : Int32))]))
                  refine own_st (fun _ => XS.icmpNo X0.here hx rfl (hb hby own_dixc_10) rfl (tlt (by decide : (8 : Int32) < (15 : Int32))).2.1) ?_
                  show own_End p e below P (s₁.setTop (mkF m 13 #[.val (.ref o0), .val (.int p1), .val (.int (0 : Int32)), .val (.int (15 : Int32)), .val (.int (p1.toInt8.toInt32)), .val (.int (8 : Int32))] []))
                  refine own_st (fun _ => XS.aloadN X0.here hx rfl (hb hby own_dixc_13) rfl rfl) ?_
                  show own_End p e below P (s₁.setTop (mkF m 14 #[.val (.ref o0), .val (.int p1), .val (.int (0 : Int32)), .val (.int (15 : Int32)), .val (.int (p1.toInt8.toInt32)), .val (.int (8 : Int32))] [(.ref o0)]))
                  refine own_st (fun _ => XS.iload X0.here hx rfl (hb hby own_dixc_14) rfl) ?_
                  show own_End p e below P (s₁.setTop (mkF m 16 #[.val (.ref o0), .val (.int p1), .val (.int (0 : Int32)), .val (.int (15 : Int32)), .val (.int (p1.toInt8.toInt32)), .val (.int (8 : Int32))] [(.int (8 : Int32)), (.ref o0)]))
                  refine own_baloadV X0 hx hZ e0 V_o0 (j := (8 : Int32)) (v := (45 : Int32)) (by decide) (by decide) rfl (g := (mkF m 16 #[.val (.ref o0), .val (.int p1), .val (.int (0 : Int32)), .val (.int (15 : Int32)), .val (.int (p1.toInt8.toInt32)), .val (.int (8 : Int32))] [(.int (8 : Int32)), (.ref o0)])) rfl rfl (hb hby own_dixc_16) ?_
                  show own_End p e below P (s₁.setTop (mkF m 17 #[.val (.ref o0), .val (.int p1), .val (.int (0 : Int32)), .val (.int (15 : Int32)), .val (.int (p1.toInt8.toInt32)), .val (.int (8 : Int32))] [(.int (45 : Int32))]))
                  refine own_st (fun _ => XS.iload X0.here hx rfl (hb hby own_dixc_17) rfl) ?_
                  show own_End p e below P (s₁.setTop (mkF m 19 #[.val (.ref o0), .val (.int p1), .val (.int (0 : Int32)), .val (.int (15 : Int32)), .val (.int (p1.toInt8.toInt32)), .val (.int (8 : Int32))] [(.int (p1.toInt8.toInt32)), (.int (45 : Int32))]))
                  by_cases hc9 : (45 : Int32) = (p1.toInt8.toInt32)
                  · refine own_st (fun _ => XS.icmpNo X0.here hx rfl (hb hby own_dixc_19) rfl (teq hc9).2) ?_
                    show own_End p e below P (s₁.setTop (mkF m 22 #[.val (.ref o0), .val (.int p1), .val (.int (0 : Int32)), .val (.int (15 : Int32)), .val (.int (p1.toInt8.toInt32)), .val (.int (8 : Int32))] []))
                    refine own_st (fun _ => XS.iload X0.here hx rfl (hb hby own_dixc_22) rfl) ?_
                    show own_End p e below P (s₁.setTop (mkF m 24 #[.val (.ref o0), .val (.int p1), .val (.int (0 : Int32)), .val (.int (15 : Int32)), .val (.int (p1.toInt8.toInt32)), .val (.int (8 : Int32))] [(.int (8 : Int32))]))
                    refine own_retI X0 hx hlk hP hrt (hb hby own_dixc_24) (by decide) (by decide) ⟨congrArg (fun z => some (Value.int z)) ?_, N0, e0⟩
                    exact (show own_fixc p1 = (8 : Int32) from (if_neg hc1).trans ((if_neg hc2).trans ((if_neg hc3).trans ((if_neg hc4).trans ((if_neg hc5).trans ((if_neg hc6).trans ((if_neg hc7).trans ((if_neg hc8).trans ((if_pos hc9).trans (rfl)))))))))).symm
                  · refine own_st (fun _ => XS.icmpYes X0.here hx rfl (pc0 := 19) (pc' := 25) rfl (hb hby own_dixc_19) rfl (feq hc9).2 (by decide) (by decide)) ?_
                    show own_End p e below P (s₁.setTop (mkF m 25 #[.val (.ref o0), .val (.int p1), .val (.int (0 : Int32)), .val (.int (15 : Int32)), .val (.int (p1.toInt8.toInt32)), .val (.int (8 : Int32))] []))
                    refine own_st (fun _ => XS.iinc X0.here hx rfl (hb hby own_dixc_25) rfl (l' := #[.val (.ref o0), .val (.int p1), .val (.int (0 : Int32)), .val (.int (15 : Int32)), .val (.int (p1.toInt8.toInt32)), .val (.int (9 : Int32))]) rfl) ?_
                    show own_End p e below P (s₁.setTop (mkF m 28 #[.val (.ref o0), .val (.int p1), .val (.int (0 : Int32)), .val (.int (15 : Int32)), .val (.int (p1.toInt8.toInt32)), .val (.int (9 : Int32))] []))
                    refine own_st (fun _ => XS.goto X0.here hx rfl (pc0 := 28) (pc' := 7) rfl (hb hby own_dixc_28) (by decide) (by decide)) ?_
                    show own_End p e below P (s₁.setTop (mkF m 7 #[.val (.ref o0), .val (.int p1), .val (.int (0 : Int32)), .val (.int (15 : Int32)), .val (.int (p1.toInt8.toInt32)), .val (.int (9 : Int32))] []))
                    refine own_st (fun _ => XS.iload X0.here hx rfl (hb hby own_dixc_7) rfl) ?_
                    show own_End p e below P (s₁.setTop (mkF m 9 #[.val (.ref o0), .val (.int p1), .val (.int (0 : Int32)), .val (.int (15 : Int32)), .val (.int (p1.toInt8.toInt32)), .val (.int (9 : Int32))] [(.int (9 : Int32))]))
                    refine own_st (fun _ => XS.iloadN X0.here hx rfl (hb hby own_dixc_9) rfl) ?_
                    show own_End p e below P (s₁.setTop (mkF m 10 #[.val (.ref o0), .val (.int p1), .val (.int (0 : Int32)), .val (.int (15 : Int32)), .val (.int (p1.toInt8.toInt32)), .val (.int (9 : Int32))] [(.int (15 : Int32)), (.int (9 : Int32))]))
                    refine own_st (fun _ => XS.icmpNo X0.here hx rfl (hb hby own_dixc_10) rfl (tlt (by decide : (9 : Int32) < (15 : Int32))).2.1) ?_
                    show own_End p e below P (s₁.setTop (mkF m 13 #[.val (.ref o0), .val (.int p1), .val (.int (0 : Int32)), .val (.int (15 : Int32)), .val (.int (p1.toInt8.toInt32)), .val (.int (9 : Int32))] []))
                    refine own_st (fun _ => XS.aloadN X0.here hx rfl (hb hby own_dixc_13) rfl rfl) ?_
                    show own_End p e below P (s₁.setTop (mkF m 14 #[.val (.ref o0), .val (.int p1), .val (.int (0 : Int32)), .val (.int (15 : Int32)), .val (.int (p1.toInt8.toInt32)), .val (.int (9 : Int32))] [(.ref o0)]))
                    refine own_st (fun _ => XS.iload X0.here hx rfl (hb hby own_dixc_14) rfl) ?_
                    show own_End p e below P (s₁.setTop (mkF m 16 #[.val (.ref o0), .val (.int p1), .val (.int (0 : Int32)), .val (.int (15 : Int32)), .val (.int (p1.toInt8.toInt32)), .val (.int (9 : Int32))] [(.int (9 : Int32)), (.ref o0)]))
                    refine own_baloadV X0 hx hZ e0 V_o0 (j := (9 : Int32)) (v := (46 : Int32)) (by decide) (by decide) rfl (g := (mkF m 16 #[.val (.ref o0), .val (.int p1), .val (.int (0 : Int32)), .val (.int (15 : Int32)), .val (.int (p1.toInt8.toInt32)), .val (.int (9 : Int32))] [(.int (9 : Int32)), (.ref o0)])) rfl rfl (hb hby own_dixc_16) ?_
                    show own_End p e below P (s₁.setTop (mkF m 17 #[.val (.ref o0), .val (.int p1), .val (.int (0 : Int32)), .val (.int (15 : Int32)), .val (.int (p1.toInt8.toInt32)), .val (.int (9 : Int32))] [(.int (46 : Int32))]))
                    refine own_st (fun _ => XS.iload X0.here hx rfl (hb hby own_dixc_17) rfl) ?_
                    show own_End p e below P (s₁.setTop (mkF m 19 #[.val (.ref o0), .val (.int p1), .val (.int (0 : Int32)), .val (.int (15 : Int32)), .val (.int (p1.toInt8.toInt32)), .val (.int (9 : Int32))] [(.int (p1.toInt8.toInt32)), (.int (46 : Int32))]))
                    by_cases hc10 : (46 : Int32) = (p1.toInt8.toInt32)
                    · refine own_st (fun _ => XS.icmpNo X0.here hx rfl (hb hby own_dixc_19) rfl (teq hc10).2) ?_
                      show own_End p e below P (s₁.setTop (mkF m 22 #[.val (.ref o0), .val (.int p1), .val (.int (0 : Int32)), .val (.int (15 : Int32)), .val (.int (p1.toInt8.toInt32)), .val (.int (9 : Int32))] []))
                      refine own_st (fun _ => XS.iload X0.here hx rfl (hb hby own_dixc_22) rfl) ?_
                      show own_End p e below P (s₁.setTop (mkF m 24 #[.val (.ref o0), .val (.int p1), .val (.int (0 : Int32)), .val (.int (15 : Int32)), .val (.int (p1.toInt8.toInt32)), .val (.int (9 : Int32))] [(.int (9 : Int32))]))
                      refine own_retI X0 hx hlk hP hrt (hb hby own_dixc_24) (by decide) (by decide) ⟨congrArg (fun z => some (Value.int z)) ?_, N0, e0⟩
                      exact (show own_fixc p1 = (9 : Int32) from (if_neg hc1).trans ((if_neg hc2).trans ((if_neg hc3).trans ((if_neg hc4).trans ((if_neg hc5).trans ((if_neg hc6).trans ((if_neg hc7).trans ((if_neg hc8).trans ((if_neg hc9).trans ((if_pos hc10).trans (rfl))))))))))).symm
                    · refine own_st (fun _ => XS.icmpYes X0.here hx rfl (pc0 := 19) (pc' := 25) rfl (hb hby own_dixc_19) rfl (feq hc10).2 (by decide) (by decide)) ?_
                      show own_End p e below P (s₁.setTop (mkF m 25 #[.val (.ref o0), .val (.int p1), .val (.int (0 : Int32)), .val (.int (15 : Int32)), .val (.int (p1.toInt8.toInt32)), .val (.int (9 : Int32))] []))
                      refine own_st (fun _ => XS.iinc X0.here hx rfl (hb hby own_dixc_25) rfl (l' := #[.val (.ref o0), .val (.int p1), .val (.int (0 : Int32)), .val (.int (15 : Int32)), .val (.int (p1.toInt8.toInt32)), .val (.int (10 : Int32))]) rfl) ?_
                      show own_End p e below P (s₁.setTop (mkF m 28 #[.val (.ref o0), .val (.int p1), .val (.int (0 : Int32)), .val (.int (15 : Int32)), .val (.int (p1.toInt8.toInt32)), .val (.int (10 : Int32))] []))
                      refine own_st (fun _ => XS.goto X0.here hx rfl (pc0 := 28) (pc' := 7) rfl (hb hby own_dixc_28) (by decide) (by decide)) ?_
                      show own_End p e below P (s₁.setTop (mkF m 7 #[.val (.ref o0), .val (.int p1), .val (.int (0 : Int32)), .val (.int (15 : Int32)), .val (.int (p1.toInt8.toInt32)), .val (.int (10 : Int32))] []))
                      refine own_st (fun _ => XS.iload X0.here hx rfl (hb hby own_dixc_7) rfl) ?_
                      show own_End p e below P (s₁.setTop (mkF m 9 #[.val (.ref o0), .val (.int p1), .val (.int (0 : Int32)), .val (.int (15 : Int32)), .val (.int (p1.toInt8.toInt32)), .val (.int (10 : Int32))] [(.int (10 : Int32))]))
                      refine own_st (fun _ => XS.iloadN X0.here hx rfl (hb hby own_dixc_9) rfl) ?_
                      show own_End p e below P (s₁.setTop (mkF m 10 #[.val (.ref o0), .val (.int p1), .val (.int (0 : Int32)), .val (.int (15 : Int32)), .val (.int (p1.toInt8.toInt32)), .val (.int (10 : Int32))] [(.int (15 : Int32)), (.int (10 : Int32))]))
                      refine own_st (fun _ => XS.icmpNo X0.here hx rfl (hb hby own_dixc_10) rfl (tlt (by decide : (10 : Int32) < (15 : Int32))).2.1) ?_
                      show own_End p e below P (s₁.setTop (mkF m 13 #[.val (.ref o0), .val (.int p1), .val (.int (0 : Int32)), .val (.int (15 : Int32)), .val (.int (p1.toInt8.toInt32)), .val (.int (10 : Int32))] []))
                      refine own_st (fun _ => XS.aloadN X0.here hx rfl (hb hby own_dixc_13) rfl rfl) ?_
                      show own_End p e below P (s₁.setTop (mkF m 14 #[.val (.ref o0), .val (.int p1), .val (.int (0 : Int32)), .val (.int (15 : Int32)), .val (.int (p1.toInt8.toInt32)), .val (.int (10 : Int32))] [(.ref o0)]))
                      refine own_st (fun _ => XS.iload X0.here hx rfl (hb hby own_dixc_14) rfl) ?_
                      show own_End p e below P (s₁.setTop (mkF m 16 #[.val (.ref o0), .val (.int p1), .val (.int (0 : Int32)), .val (.int (15 : Int32)), .val (.int (p1.toInt8.toInt32)), .val (.int (10 : Int32))] [(.int (10 : Int32)), (.ref o0)]))
                      refine own_baloadV X0 hx hZ e0 V_o0 (j := (10 : Int32)) (v := (94 : Int32)) (by decide) (by decide) rfl (g := (mkF m 16 #[.val (.ref o0), .val (.int p1), .val (.int (0 : Int32)), .val (.int (15 : Int32)), .val (.int (p1.toInt8.toInt32)), .val (.int (10 : Int32))] [(.int (10 : Int32)), (.ref o0)])) rfl rfl (hb hby own_dixc_16) ?_
                      show own_End p e below P (s₁.setTop (mkF m 17 #[.val (.ref o0), .val (.int p1), .val (.int (0 : Int32)), .val (.int (15 : Int32)), .val (.int (p1.toInt8.toInt32)), .val (.int (10 : Int32))] [(.int (94 : Int32))]))
                      refine own_st (fun _ => XS.iload X0.here hx rfl (hb hby own_dixc_17) rfl) ?_
                      show own_End p e below P (s₁.setTop (mkF m 19 #[.val (.ref o0), .val (.int p1), .val (.int (0 : Int32)), .val (.int (15 : Int32)), .val (.int (p1.toInt8.toInt32)), .val (.int (10 : Int32))] [(.int (p1.toInt8.toInt32)), (.int (94 : Int32))]))
                      by_cases hc11 : (94 : Int32) = (p1.toInt8.toInt32)
                      · refine own_st (fun _ => XS.icmpNo X0.here hx rfl (hb hby own_dixc_19) rfl (teq hc11).2) ?_
                        show own_End p e below P (s₁.setTop (mkF m 22 #[.val (.ref o0), .val (.int p1), .val (.int (0 : Int32)), .val (.int (15 : Int32)), .val (.int (p1.toInt8.toInt32)), .val (.int (10 : Int32))] []))
                        refine own_st (fun _ => XS.iload X0.here hx rfl (hb hby own_dixc_22) rfl) ?_
                        show own_End p e below P (s₁.setTop (mkF m 24 #[.val (.ref o0), .val (.int p1), .val (.int (0 : Int32)), .val (.int (15 : Int32)), .val (.int (p1.toInt8.toInt32)), .val (.int (10 : Int32))] [(.int (10 : Int32))]))
                        refine own_retI X0 hx hlk hP hrt (hb hby own_dixc_24) (by decide) (by decide) ⟨congrArg (fun z => some (Value.int z)) ?_, N0, e0⟩
                        exact (show own_fixc p1 = (10 : Int32) from (if_neg hc1).trans ((if_neg hc2).trans ((if_neg hc3).trans ((if_neg hc4).trans ((if_neg hc5).trans ((if_neg hc6).trans ((if_neg hc7).trans ((if_neg hc8).trans ((if_neg hc9).trans ((if_neg hc10).trans ((if_pos hc11).trans (rfl)))))))))))).symm
                      · refine own_st (fun _ => XS.icmpYes X0.here hx rfl (pc0 := 19) (pc' := 25) rfl (hb hby own_dixc_19) rfl (feq hc11).2 (by decide) (by decide)) ?_
                        show own_End p e below P (s₁.setTop (mkF m 25 #[.val (.ref o0), .val (.int p1), .val (.int (0 : Int32)), .val (.int (15 : Int32)), .val (.int (p1.toInt8.toInt32)), .val (.int (10 : Int32))] []))
                        refine own_st (fun _ => XS.iinc X0.here hx rfl (hb hby own_dixc_25) rfl (l' := #[.val (.ref o0), .val (.int p1), .val (.int (0 : Int32)), .val (.int (15 : Int32)), .val (.int (p1.toInt8.toInt32)), .val (.int (11 : Int32))]) rfl) ?_
                        show own_End p e below P (s₁.setTop (mkF m 28 #[.val (.ref o0), .val (.int p1), .val (.int (0 : Int32)), .val (.int (15 : Int32)), .val (.int (p1.toInt8.toInt32)), .val (.int (11 : Int32))] []))
                        refine own_st (fun _ => XS.goto X0.here hx rfl (pc0 := 28) (pc' := 7) rfl (hb hby own_dixc_28) (by decide) (by decide)) ?_
                        show own_End p e below P (s₁.setTop (mkF m 7 #[.val (.ref o0), .val (.int p1), .val (.int (0 : Int32)), .val (.int (15 : Int32)), .val (.int (p1.toInt8.toInt32)), .val (.int (11 : Int32))] []))
                        refine own_st (fun _ => XS.iload X0.here hx rfl (hb hby own_dixc_7) rfl) ?_
                        show own_End p e below P (s₁.setTop (mkF m 9 #[.val (.ref o0), .val (.int p1), .val (.int (0 : Int32)), .val (.int (15 : Int32)), .val (.int (p1.toInt8.toInt32)), .val (.int (11 : Int32))] [(.int (11 : Int32))]))
                        refine own_st (fun _ => XS.iloadN X0.here hx rfl (hb hby own_dixc_9) rfl) ?_
                        show own_End p e below P (s₁.setTop (mkF m 10 #[.val (.ref o0), .val (.int p1), .val (.int (0 : Int32)), .val (.int (15 : Int32)), .val (.int (p1.toInt8.toInt32)), .val (.int (11 : Int32))] [(.int (15 : Int32)), (.int (11 : Int32))]))
                        refine own_st (fun _ => XS.icmpNo X0.here hx rfl (hb hby own_dixc_10) rfl (tlt (by decide : (11 : Int32) < (15 : Int32))).2.1) ?_
                        show own_End p e below P (s₁.setTop (mkF m 13 #[.val (.ref o0), .val (.int p1), .val (.int (0 : Int32)), .val (.int (15 : Int32)), .val (.int (p1.toInt8.toInt32)), .val (.int (11 : Int32))] []))
                        refine own_st (fun _ => XS.aloadN X0.here hx rfl (hb hby own_dixc_13) rfl rfl) ?_
                        show own_End p e below P (s₁.setTop (mkF m 14 #[.val (.ref o0), .val (.int p1), .val (.int (0 : Int32)), .val (.int (15 : Int32)), .val (.int (p1.toInt8.toInt32)), .val (.int (11 : Int32))] [(.ref o0)]))
                        refine own_st (fun _ => XS.iload X0.here hx rfl (hb hby own_dixc_14) rfl) ?_
                        show own_End p e below P (s₁.setTop (mkF m 16 #[.val (.ref o0), .val (.int p1), .val (.int (0 : Int32)), .val (.int (15 : Int32)), .val (.int (p1.toInt8.toInt32)), .val (.int (11 : Int32))] [(.int (11 : Int32)), (.ref o0)]))
                        refine own_baloadV X0 hx hZ e0 V_o0 (j := (11 : Int32)) (v := (95 : Int32)) (by decide) (by decide) rfl (g := (mkF m 16 #[.val (.ref o0), .val (.int p1), .val (.int (0 : Int32)), .val (.int (15 : Int32)), .val (.int (p1.toInt8.toInt32)), .val (.int (11 : Int32))] [(.int (11 : Int32)), (.ref o0)])) rfl rfl (hb hby own_dixc_16) ?_
                        show own_End p e below P (s₁.setTop (mkF m 17 #[.val (.ref o0), .val (.int p1), .val (.int (0 : Int32)), .val (.int (15 : Int32)), .val (.int (p1.toInt8.toInt32)), .val (.int (11 : Int32))] [(.int (95 : Int32))]))
                        refine own_st (fun _ => XS.iload X0.here hx rfl (hb hby own_dixc_17) rfl) ?_
                        show own_End p e below P (s₁.setTop (mkF m 19 #[.val (.ref o0), .val (.int p1), .val (.int (0 : Int32)), .val (.int (15 : Int32)), .val (.int (p1.toInt8.toInt32)), .val (.int (11 : Int32))] [(.int (p1.toInt8.toInt32)), (.int (95 : Int32))]))
                        by_cases hc12 : (95 : Int32) = (p1.toInt8.toInt32)
                        · refine own_st (fun _ => XS.icmpNo X0.here hx rfl (hb hby own_dixc_19) rfl (teq hc12).2) ?_
                          show own_End p e below P (s₁.setTop (mkF m 22 #[.val (.ref o0), .val (.int p1), .val (.int (0 : Int32)), .val (.int (15 : Int32)), .val (.int (p1.toInt8.toInt32)), .val (.int (11 : Int32))] []))
                          refine own_st (fun _ => XS.iload X0.here hx rfl (hb hby own_dixc_22) rfl) ?_
                          show own_End p e below P (s₁.setTop (mkF m 24 #[.val (.ref o0), .val (.int p1), .val (.int (0 : Int32)), .val (.int (15 : Int32)), .val (.int (p1.toInt8.toInt32)), .val (.int (11 : Int32))] [(.int (11 : Int32))]))
                          refine own_retI X0 hx hlk hP hrt (hb hby own_dixc_24) (by decide) (by decide) ⟨congrArg (fun z => some (Value.int z)) ?_, N0, e0⟩
                          exact (show own_fixc p1 = (11 : Int32) from (if_neg hc1).trans ((if_neg hc2).trans ((if_neg hc3).trans ((if_neg hc4).trans ((if_neg hc5).trans ((if_neg hc6).trans ((if_neg hc7).trans ((if_neg hc8).trans ((if_neg hc9).trans ((if_neg hc10).trans ((if_neg hc11).trans ((if_pos hc12).trans (rfl))))))))))))).symm
                        · refine own_st (fun _ => XS.icmpYes X0.here hx rfl (pc0 := 19) (pc' := 25) rfl (hb hby own_dixc_19) rfl (feq hc12).2 (by decide) (by decide)) ?_
                          show own_End p e below P (s₁.setTop (mkF m 25 #[.val (.ref o0), .val (.int p1), .val (.int (0 : Int32)), .val (.int (15 : Int32)), .val (.int (p1.toInt8.toInt32)), .val (.int (11 : Int32))] []))
                          refine own_st (fun _ => XS.iinc X0.here hx rfl (hb hby own_dixc_25) rfl (l' := #[.val (.ref o0), .val (.int p1), .val (.int (0 : Int32)), .val (.int (15 : Int32)), .val (.int (p1.toInt8.toInt32)), .val (.int (12 : Int32))]) rfl) ?_
                          show own_End p e below P (s₁.setTop (mkF m 28 #[.val (.ref o0), .val (.int p1), .val (.int (0 : Int32)), .val (.int (15 : Int32)), .val (.int (p1.toInt8.toInt32)), .val (.int (12 : Int32))] []))
                          refine own_st (fun _ => XS.goto X0.here hx rfl (pc0 := 28) (pc' := 7) rfl (hb hby own_dixc_28) (by decide) (by decide)) ?_
                          show own_End p e below P (s₁.setTop (mkF m 7 #[.val (.ref o0), .val (.int p1), .val (.int (0 : Int32)), .val (.int (15 : Int32)), .val (.int (p1.toInt8.toInt32)), .val (.int (12 : Int32))] []))
                          refine own_st (fun _ => XS.iload X0.here hx rfl (hb hby own_dixc_7) rfl) ?_
                          show own_End p e below P (s₁.setTop (mkF m 9 #[.val (.ref o0), .val (.int p1), .val (.int (0 : Int32)), .val (.int (15 : Int32)), .val (.int (p1.toInt8.toInt32)), .val (.int (12 : Int32))] [(.int (12 : Int32))]))
                          refine own_st (fun _ => XS.iloadN X0.here hx rfl (hb hby own_dixc_9) rfl) ?_
                          show own_End p e below P (s₁.setTop (mkF m 10 #[.val (.ref o0), .val (.int p1), .val (.int (0 : Int32)), .val (.int (15 : Int32)), .val (.int (p1.toInt8.toInt32)), .val (.int (12 : Int32))] [(.int (15 : Int32)), (.int (12 : Int32))]))
                          refine own_st (fun _ => XS.icmpNo X0.here hx rfl (hb hby own_dixc_10) rfl (tlt (by decide : (12 : Int32) < (15 : Int32))).2.1) ?_
                          show own_End p e below P (s₁.setTop (mkF m 13 #[.val (.ref o0), .val (.int p1), .val (.int (0 : Int32)), .val (.int (15 : Int32)), .val (.int (p1.toInt8.toInt32)), .val (.int (12 : Int32))] []))
                          refine own_st (fun _ => XS.aloadN X0.here hx rfl (hb hby own_dixc_13) rfl rfl) ?_
                          show own_End p e below P (s₁.setTop (mkF m 14 #[.val (.ref o0), .val (.int p1), .val (.int (0 : Int32)), .val (.int (15 : Int32)), .val (.int (p1.toInt8.toInt32)), .val (.int (12 : Int32))] [(.ref o0)]))
                          refine own_st (fun _ => XS.iload X0.here hx rfl (hb hby own_dixc_14) rfl) ?_
                          show own_End p e below P (s₁.setTop (mkF m 16 #[.val (.ref o0), .val (.int p1), .val (.int (0 : Int32)), .val (.int (15 : Int32)), .val (.int (p1.toInt8.toInt32)), .val (.int (12 : Int32))] [(.int (12 : Int32)), (.ref o0)]))
                          refine own_baloadV X0 hx hZ e0 V_o0 (j := (12 : Int32)) (v := (96 : Int32)) (by decide) (by decide) rfl (g := (mkF m 16 #[.val (.ref o0), .val (.int p1), .val (.int (0 : Int32)), .val (.int (15 : Int32)), .val (.int (p1.toInt8.toInt32)), .val (.int (12 : Int32))] [(.int (12 : Int32)), (.ref o0)])) rfl rfl (hb hby own_dixc_16) ?_
                          show own_End p e below P (s₁.setTop (mkF m 17 #[.val (.ref o0), .val (.int p1), .val (.int (0 : Int32)), .val (.int (15 : Int32)), .val (.int (p1.toInt8.toInt32)), .val (.int (12 : Int32))] [(.int (96 : Int32))]))
                          refine own_st (fun _ => XS.iload X0.here hx rfl (hb hby own_dixc_17) rfl) ?_
                          show own_End p e below P (s₁.setTop (mkF m 19 #[.val (.ref o0), .val (.int p1), .val (.int (0 : Int32)), .val (.int (15 : Int32)), .val (.int (p1.toInt8.toInt32)), .val (.int (12 : Int32))] [(.int (p1.toInt8.toInt32)), (.int (96 : Int32))]))
                          by_cases hc13 : (96 : Int32) = (p1.toInt8.toInt32)
                          · refine own_st (fun _ => XS.icmpNo X0.here hx rfl (hb hby own_dixc_19) rfl (teq hc13).2) ?_
                            show own_End p e below P (s₁.setTop (mkF m 22 #[.val (.ref o0), .val (.int p1), .val (.int (0 : Int32)), .val (.int (15 : Int32)), .val (.int (p1.toInt8.toInt32)), .val (.int (12 : Int32))] []))
                            refine own_st (fun _ => XS.iload X0.here hx rfl (hb hby own_dixc_22) rfl) ?_
                            show own_End p e below P (s₁.setTop (mkF m 24 #[.val (.ref o0), .val (.int p1), .val (.int (0 : Int32)), .val (.int (15 : Int32)), .val (.int (p1.toInt8.toInt32)), .val (.int (12 : Int32))] [(.int (12 : Int32))]))
                            refine own_retI X0 hx hlk hP hrt (hb hby own_dixc_24) (by decide) (by decide) ⟨congrArg (fun z => some (Value.int z)) ?_, N0, e0⟩
                            exact (show own_fixc p1 = (12 : Int32) from (if_neg hc1).trans ((if_neg hc2).trans ((if_neg hc3).trans ((if_neg hc4).trans ((if_neg hc5).trans ((if_neg hc6).trans ((if_neg hc7).trans ((if_neg hc8).trans ((if_neg hc9).trans ((if_neg hc10).trans ((if_neg hc11).trans ((if_neg hc12).trans ((if_pos hc13).trans (rfl)))))))))))))).symm
                          · refine own_st (fun _ => XS.icmpYes X0.here hx rfl (pc0 := 19) (pc' := 25) rfl (hb hby own_dixc_19) rfl (feq hc13).2 (by decide) (by decide)) ?_
                            show own_End p e below P (s₁.setTop (mkF m 25 #[.val (.ref o0), .val (.int p1), .val (.int (0 : Int32)), .val (.int (15 : Int32)), .val (.int (p1.toInt8.toInt32)), .val (.int (12 : Int32))] []))
                            refine own_st (fun _ => XS.iinc X0.here hx rfl (hb hby own_dixc_25) rfl (l' := #[.val (.ref o0), .val (.int p1), .val (.int (0 : Int32)), .val (.int (15 : Int32)), .val (.int (p1.toInt8.toInt32)), .val (.int (13 : Int32))]) rfl) ?_
                            show own_End p e below P (s₁.setTop (mkF m 28 #[.val (.ref o0), .val (.int p1), .val (.int (0 : Int32)), .val (.int (15 : Int32)), .val (.int (p1.toInt8.toInt32)), .val (.int (13 : Int32))] []))
                            refine own_st (fun _ => XS.goto X0.here hx rfl (pc0 := 28) (pc' := 7) rfl (hb hby own_dixc_28) (by decide) (by decide)) ?_
                            show own_End p e below P (s₁.setTop (mkF m 7 #[.val (.ref o0), .val (.int p1), .val (.int (0 : Int32)), .val (.int (15 : Int32)), .val (.int (p1.toInt8.toInt32)), .val (.int (13 : Int32))] []))
                            refine own_st (fun _ => XS.iload X0.here hx rfl (hb hby own_dixc_7) rfl) ?_
                            show own_End p e below P (s₁.setTop (mkF m 9 #[.val (.ref o0), .val (.int p1), .val (.int (0 : Int32)), .val (.int (15 : Int32)), .val (.int (p1.toInt8.toInt32)), .val (.int (13 : Int32))] [(.int (13 : Int32))]))
                            refine own_st (fun _ => XS.iloadN X0.here hx rfl (hb hby own_dixc_9) rfl) ?_
                            show own_End p e below P (s₁.setTop (mkF m 10 #[.val (.ref o0), .val (.int p1), .val (.int (0 : Int32)), .val (.int (15 : Int32)), .val (.int (p1.toInt8.toInt32)), .val (.int (13 : Int32))] [(.int (15 : Int32)), (.int (13 : Int32))]))
                            refine own_st (fun _ => XS.icmpNo X0.here hx rfl (hb hby own_dixc_10) rfl (tlt (by decide : (13 : Int32) < (15 : Int32))).2.1) ?_
                            show own_End p e below P (s₁.setTop (mkF m 13 #[.val (.ref o0), .val (.int p1), .val (.int (0 : Int32)), .val (.int (15 : Int32)), .val (.int (p1.toInt8.toInt32)), .val (.int (13 : Int32))] []))
                            refine own_st (fun _ => XS.aloadN X0.here hx rfl (hb hby own_dixc_13) rfl rfl) ?_
                            show own_End p e below P (s₁.setTop (mkF m 14 #[.val (.ref o0), .val (.int p1), .val (.int (0 : Int32)), .val (.int (15 : Int32)), .val (.int (p1.toInt8.toInt32)), .val (.int (13 : Int32))] [(.ref o0)]))
                            refine own_st (fun _ => XS.iload X0.here hx rfl (hb hby own_dixc_14) rfl) ?_
                            show own_End p e below P (s₁.setTop (mkF m 16 #[.val (.ref o0), .val (.int p1), .val (.int (0 : Int32)), .val (.int (15 : Int32)), .val (.int (p1.toInt8.toInt32)), .val (.int (13 : Int32))] [(.int (13 : Int32)), (.ref o0)]))
                            refine own_baloadV X0 hx hZ e0 V_o0 (j := (13 : Int32)) (v := (124 : Int32)) (by decide) (by decide) rfl (g := (mkF m 16 #[.val (.ref o0), .val (.int p1), .val (.int (0 : Int32)), .val (.int (15 : Int32)), .val (.int (p1.toInt8.toInt32)), .val (.int (13 : Int32))] [(.int (13 : Int32)), (.ref o0)])) rfl rfl (hb hby own_dixc_16) ?_
                            show own_End p e below P (s₁.setTop (mkF m 17 #[.val (.ref o0), .val (.int p1), .val (.int (0 : Int32)), .val (.int (15 : Int32)), .val (.int (p1.toInt8.toInt32)), .val (.int (13 : Int32))] [(.int (124 : Int32))]))
                            refine own_st (fun _ => XS.iload X0.here hx rfl (hb hby own_dixc_17) rfl) ?_
                            show own_End p e below P (s₁.setTop (mkF m 19 #[.val (.ref o0), .val (.int p1), .val (.int (0 : Int32)), .val (.int (15 : Int32)), .val (.int (p1.toInt8.toInt32)), .val (.int (13 : Int32))] [(.int (p1.toInt8.toInt32)), (.int (124 : Int32))]))
                            by_cases hc14 : (124 : Int32) = (p1.toInt8.toInt32)
                            · refine own_st (fun _ => XS.icmpNo X0.here hx rfl (hb hby own_dixc_19) rfl (teq hc14).2) ?_
                              show own_End p e below P (s₁.setTop (mkF m 22 #[.val (.ref o0), .val (.int p1), .val (.int (0 : Int32)), .val (.int (15 : Int32)), .val (.int (p1.toInt8.toInt32)), .val (.int (13 : Int32))] []))
                              refine own_st (fun _ => XS.iload X0.here hx rfl (hb hby own_dixc_22) rfl) ?_
                              show own_End p e below P (s₁.setTop (mkF m 24 #[.val (.ref o0), .val (.int p1), .val (.int (0 : Int32)), .val (.int (15 : Int32)), .val (.int (p1.toInt8.toInt32)), .val (.int (13 : Int32))] [(.int (13 : Int32))]))
                              refine own_retI X0 hx hlk hP hrt (hb hby own_dixc_24) (by decide) (by decide) ⟨congrArg (fun z => some (Value.int z)) ?_, N0, e0⟩
                              exact (show own_fixc p1 = (13 : Int32) from (if_neg hc1).trans ((if_neg hc2).trans ((if_neg hc3).trans ((if_neg hc4).trans ((if_neg hc5).trans ((if_neg hc6).trans ((if_neg hc7).trans ((if_neg hc8).trans ((if_neg hc9).trans ((if_neg hc10).trans ((if_neg hc11).trans ((if_neg hc12).trans ((if_neg hc13).trans ((if_pos hc14).trans (rfl))))))))))))))).symm
                            · refine own_st (fun _ => XS.icmpYes X0.here hx rfl (pc0 := 19) (pc' := 25) rfl (hb hby own_dixc_19) rfl (feq hc14).2 (by decide) (by decide)) ?_
                              show own_End p e below P (s₁.setTop (mkF m 25 #[.val (.ref o0), .val (.int p1), .val (.int (0 : Int32)), .val (.int (15 : Int32)), .val (.int (p1.toInt8.toInt32)), .val (.int (13 : Int32))] []))
                              refine own_st (fun _ => XS.iinc X0.here hx rfl (hb hby own_dixc_25) rfl (l' := #[.val (.ref o0), .val (.int p1), .val (.int (0 : Int32)), .val (.int (15 : Int32)), .val (.int (p1.toInt8.toInt32)), .val (.int (14 : Int32))]) rfl) ?_
                              show own_End p e below P (s₁.setTop (mkF m 28 #[.val (.ref o0), .val (.int p1), .val (.int (0 : Int32)), .val (.int (15 : Int32)), .val (.int (p1.toInt8.toInt32)), .val (.int (14 : Int32))] []))
                              refine own_st (fun _ => XS.goto X0.here hx rfl (pc0 := 28) (pc' := 7) rfl (hb hby own_dixc_28) (by decide) (by decide)) ?_
                              show own_End p e below P (s₁.setTop (mkF m 7 #[.val (.ref o0), .val (.int p1), .val (.int (0 : Int32)), .val (.int (15 : Int32)), .val (.int (p1.toInt8.toInt32)), .val (.int (14 : Int32))] []))
                              refine own_st (fun _ => XS.iload X0.here hx rfl (hb hby own_dixc_7) rfl) ?_
                              show own_End p e below P (s₁.setTop (mkF m 9 #[.val (.ref o0), .val (.int p1), .val (.int (0 : Int32)), .val (.int (15 : Int32)), .val (.int (p1.toInt8.toInt32)), .val (.int (14 : Int32))] [(.int (14 : Int32))]))
                              refine own_st (fun _ => XS.iloadN X0.here hx rfl (hb hby own_dixc_9) rfl) ?_
                              show own_End p e below P (s₁.setTop (mkF m 10 #[.val (.ref o0), .val (.int p1), .val (.int (0 : Int32)), .val (.int (15 : Int32)), .val (.int (p1.toInt8.toInt32)), .val (.int (14 : Int32))] [(.int (15 : Int32)), (.int (14 : Int32))]))
                              refine own_st (fun _ => XS.icmpNo X0.here hx rfl (hb hby own_dixc_10) rfl (tlt (by decide : (14 : Int32) < (15 : Int32))).2.1) ?_
                              show own_End p e below P (s₁.setTop (mkF m 13 #[.val (.ref o0), .val (.int p1), .val (.int (0 : Int32)), .val (.int (15 : Int32)), .val (.int (p1.toInt8.toInt32)), .val (.int (14 : Int32))] []))
                              refine own_st (fun _ => XS.aloadN X0.here hx rfl (hb hby own_dixc_13) rfl rfl) ?_
                              show own_End p e below P (s₁.setTop (mkF m 14 #[.val (.ref o0), .val (.int p1), .val (.int (0 : Int32)), .val (.int (15 : Int32)), .val (.int (p1.toInt8.toInt32)), .val (.int (14 : Int32))] [(.ref o0)]))
                              refine own_st (fun _ => XS.iload X0.here hx rfl (hb hby own_dixc_14) rfl) ?_
                              show own_End p e below P (s₁.setTop (mkF m 16 #[.val (.ref o0), .val (.int p1), .val (.int (0 : Int32)), .val (.int (15 : Int32)), .val (.int (p1.toInt8.toInt32)), .val (.int (14 : Int32))] [(.int (14 : Int32)), (.ref o0)]))
                              refine own_baloadV X0 hx hZ e0 V_o0 (j := (14 : Int32)) (v := (126 : Int32)) (by decide) (by decide) rfl (g := (mkF m 16 #[.val (.ref o0), .val (.int p1), .val (.int (0 : Int32)), .val (.int (15 : Int32)), .val (.int (p1.toInt8.toInt32)), .val (.int (14 : Int32))] [(.int (14 : Int32)), (.ref o0)])) rfl rfl (hb hby own_dixc_16) ?_
                              show own_End p e below P (s₁.setTop (mkF m 17 #[.val (.ref o0), .val (.int p1), .val (.int (0 : Int32)), .val (.int (15 : Int32)), .val (.int (p1.toInt8.toInt32)), .val (.int (14 : Int32))] [(.int (126 : Int32))]))
                              refine own_st (fun _ => XS.iload X0.here hx rfl (hb hby own_dixc_17) rfl) ?_
                              show own_End p e below P (s₁.setTop (mkF m 19 #[.val (.ref o0), .val (.int p1), .val (.int (0 : Int32)), .val (.int (15 : Int32)), .val (.int (p1.toInt8.toInt32)), .val (.int (14 : Int32))] [(.int (p1.toInt8.toInt32)), (.int (126 : Int32))]))
                              by_cases hc15 : (126 : Int32) = (p1.toInt8.toInt32)
                              · refine own_st (fun _ => XS.icmpNo X0.here hx rfl (hb hby own_dixc_19) rfl (teq hc15).2) ?_
                                show own_End p e below P (s₁.setTop (mkF m 22 #[.val (.ref o0), .val (.int p1), .val (.int (0 : Int32)), .val (.int (15 : Int32)), .val (.int (p1.toInt8.toInt32)), .val (.int (14 : Int32))] []))
                                refine own_st (fun _ => XS.iload X0.here hx rfl (hb hby own_dixc_22) rfl) ?_
                                show own_End p e below P (s₁.setTop (mkF m 24 #[.val (.ref o0), .val (.int p1), .val (.int (0 : Int32)), .val (.int (15 : Int32)), .val (.int (p1.toInt8.toInt32)), .val (.int (14 : Int32))] [(.int (14 : Int32))]))
                                refine own_retI X0 hx hlk hP hrt (hb hby own_dixc_24) (by decide) (by decide) ⟨congrArg (fun z => some (Value.int z)) ?_, N0, e0⟩
                                exact (show own_fixc p1 = (14 : Int32) from (if_neg hc1).trans ((if_neg hc2).trans ((if_neg hc3).trans ((if_neg hc4).trans ((if_neg hc5).trans ((if_neg hc6).trans ((if_neg hc7).trans ((if_neg hc8).trans ((if_neg hc9).trans ((if_neg hc10).trans ((if_neg hc11).trans ((if_neg hc12).trans ((if_neg hc13).trans ((if_neg hc14).trans ((if_pos hc15).trans (rfl)))))))))))))))).symm
                              · refine own_st (fun _ => XS.icmpYes X0.here hx rfl (pc0 := 19) (pc' := 25) rfl (hb hby own_dixc_19) rfl (feq hc15).2 (by decide) (by decide)) ?_
                                show own_End p e below P (s₁.setTop (mkF m 25 #[.val (.ref o0), .val (.int p1), .val (.int (0 : Int32)), .val (.int (15 : Int32)), .val (.int (p1.toInt8.toInt32)), .val (.int (14 : Int32))] []))
                                refine own_st (fun _ => XS.iinc X0.here hx rfl (hb hby own_dixc_25) rfl (l' := #[.val (.ref o0), .val (.int p1), .val (.int (0 : Int32)), .val (.int (15 : Int32)), .val (.int (p1.toInt8.toInt32)), .val (.int (15 : Int32))]) rfl) ?_
                                show own_End p e below P (s₁.setTop (mkF m 28 #[.val (.ref o0), .val (.int p1), .val (.int (0 : Int32)), .val (.int (15 : Int32)), .val (.int (p1.toInt8.toInt32)), .val (.int (15 : Int32))] []))
                                refine own_st (fun _ => XS.goto X0.here hx rfl (pc0 := 28) (pc' := 7) rfl (hb hby own_dixc_28) (by decide) (by decide)) ?_
                                show own_End p e below P (s₁.setTop (mkF m 7 #[.val (.ref o0), .val (.int p1), .val (.int (0 : Int32)), .val (.int (15 : Int32)), .val (.int (p1.toInt8.toInt32)), .val (.int (15 : Int32))] []))
                                refine own_st (fun _ => XS.iload X0.here hx rfl (hb hby own_dixc_7) rfl) ?_
                                show own_End p e below P (s₁.setTop (mkF m 9 #[.val (.ref o0), .val (.int p1), .val (.int (0 : Int32)), .val (.int (15 : Int32)), .val (.int (p1.toInt8.toInt32)), .val (.int (15 : Int32))] [(.int (15 : Int32))]))
                                refine own_st (fun _ => XS.iloadN X0.here hx rfl (hb hby own_dixc_9) rfl) ?_
                                show own_End p e below P (s₁.setTop (mkF m 10 #[.val (.ref o0), .val (.int p1), .val (.int (0 : Int32)), .val (.int (15 : Int32)), .val (.int (p1.toInt8.toInt32)), .val (.int (15 : Int32))] [(.int (15 : Int32)), (.int (15 : Int32))]))
                                refine own_st (fun _ => XS.icmpYes X0.here hx rfl (pc0 := 10) (pc' := 31) rfl (hb hby own_dixc_10) rfl (flt (by decide : ¬ ((15 : Int32) < (15 : Int32)))).2.1 (by decide) (by decide)) ?_
                                show own_End p e below P (s₁.setTop (mkF m 31 #[.val (.ref o0), .val (.int p1), .val (.int (0 : Int32)), .val (.int (15 : Int32)), .val (.int (p1.toInt8.toInt32)), .val (.int (15 : Int32))] []))
                                refine own_st (fun _ => XS.iconst X0.here hx rfl (hb hby own_dixc_31)) ?_
                                show own_End p e below P (s₁.setTop (mkF m 32 #[.val (.ref o0), .val (.int p1), .val (.int (0 : Int32)), .val (.int (15 : Int32)), .val (.int (p1.toInt8.toInt32)), .val (.int (15 : Int32))] [(.int (-1 : Int32))]))
                                refine own_retI X0 hx hlk hP hrt (hb hby own_dixc_32) (by decide) (by decide) ⟨congrArg (fun z => some (Value.int z)) ?_, N0, e0⟩
                                exact (show own_fixc p1 = (-1 : Int32) from (if_neg hc1).trans ((if_neg hc2).trans ((if_neg hc3).trans ((if_neg hc4).trans ((if_neg hc5).trans ((if_neg hc6).trans ((if_neg hc7).trans ((if_neg hc8).trans ((if_neg hc9).trans ((if_neg hc10).trans ((if_neg hc11).trans ((if_neg hc12).trans ((if_neg hc13).trans ((if_neg hc14).trans ((if_neg hc15).trans (rfl)))))))))))))))).symm
theorem own_dixl_0 : decode jdk_43_method_22_code 0 = .ok (.iload_n 1, 1) := by decide +kernel
theorem own_dixl_1 : decode jdk_43_method_22_code 1 = .ok (.invokestatic 88, 3) := by decide +kernel
theorem own_pd_I_Z_244 : parseMethodDescriptor "(I)Z" = some ⟨[.int], some .boolean⟩ := by decide +kernel
theorem own_dixl_4 : decode jdk_43_method_22_code 4 = .ok (.ifCond .ne 5, 3) := by decide +kernel
theorem own_dixl_7 : decode jdk_43_method_22_code 7 = .ok (.iconst (-1), 1) := by decide +kernel
theorem own_dixl_8 : decode jdk_43_method_22_code 8 = .ok (.ireturn, 1) := by decide +kernel
theorem own_dixl_9 : decode jdk_43_method_22_code 9 = .ok (.iload_n 2, 1) := by decide +kernel
theorem own_dixl_10 : decode jdk_43_method_22_code 10 = .ok (.iconst 0, 1) := by decide +kernel
theorem own_dixl_11 : decode jdk_43_method_22_code 11 = .ok (.invokestatic 92, 3) := by decide +kernel
theorem own_pd_II_I_300 : parseMethodDescriptor "(II)I" = some ⟨[.int, .int], some .int⟩ := by decide +kernel
theorem own_dixl_14 : decode jdk_43_method_22_code 14 = .ok (.istore_n 2, 1) := by decide +kernel
theorem own_dixl_15 : decode jdk_43_method_22_code 15 = .ok (.iload_n 3, 1) := by decide +kernel
theorem own_dixl_16 : decode jdk_43_method_22_code 16 = .ok (.aload_n 0, 1) := by decide +kernel
theorem own_dixl_17 : decode jdk_43_method_22_code 17 = .ok (.arraylength, 1) := by decide +kernel
theorem own_dixl_18 : decode jdk_43_method_22_code 18 = .ok (.invokestatic 38, 3) := by decide +kernel
theorem own_dixl_21 : decode jdk_43_method_22_code 21 = .ok (.istore_n 3, 1) := by decide +kernel
theorem own_dixl_22 : decode jdk_43_method_22_code 22 = .ok (.iload_n 2, 1) := by decide +kernel
theorem own_dixl_23 : decode jdk_43_method_22_code 23 = .ok (.iload_n 3, 1) := by decide +kernel
theorem own_dixl_24 : decode jdk_43_method_22_code 24 = .ok (.if_icmp .lt 5, 3) := by decide +kernel
theorem own_dixl_29 : decode jdk_43_method_22_code 29 = .ok (.aload_n 0, 1) := by decide +kernel
theorem own_dixl_30 : decode jdk_43_method_22_code 30 = .ok (.iload_n 1, 1) := by decide +kernel
theorem own_dixl_31 : decode jdk_43_method_22_code 31 = .ok (.iload_n 2, 1) := by decide +kernel
theorem own_dixl_32 : decode jdk_43_method_22_code 32 = .ok (.iload_n 3, 1) := by decide +kernel
theorem own_dixl_33 : decode jdk_43_method_22_code 33 = .ok (.invokestatic 95, 3) := by decide +kernel
theorem own_pd_BIII_I_530 : parseMethodDescriptor "([BIII)I" = some ⟨[(.array .byte), .int, .int, .int], some .int⟩ := by decide +kernel
theorem own_dixl_36 : decode jdk_43_method_22_code 36 = .ok (.ireturn, 1) := by decide +kernel
theorem own_efixl (m : MethodId) (o0 : Addr) (p1 : Int32) : entryFrame m #[(.ref o0), (.int p1), (.int (0 : Int32)), (.int (15 : Int32))] 4 = mkF m 0 #[.val (.ref o0), .val (.int p1), .val (.int (0 : Int32)), .val (.int (15 : Int32))] [] := by first | (simp [entryFrame, mkF, argsToLocals, Value.category]; done) | rfl
def own_fixl (p1 : Int32) : Int32 := (if (own_fcan p1) = (0 : Int32) then (-1 : Int32) else (own_fixc p1))
set_option maxRecDepth 65536 in
set_option maxHeartbeats 40000000 in
theorem own_mixl (l : Launch) (Z : State) (a0 : Array Value) (hw : ∀ d ∈ tables_1, d.before a0 Z = true) (ws : List Jvm.Cond) (o0 : Addr) (p1 : Int32) (k_o0 : ClassId) (h0 : Heap) (n0 : Nat) (Z0 : n0 ≤ h0.size) (V_o0 : Arv Z h0 o0 k_o0 .byte (15 : Int32) [(.int (33 : Int32)), (.int (35 : Int32)), (.int (36 : Int32)), (.int (37 : Int32)), (.int (38 : Int32)), (.int (39 : Int32)), (.int (42 : Int32)), (.int (43 : Int32)), (.int (45 : Int32)), (.int (46 : Int32)), (.int (94 : Int32)), (.int (95 : Int32)), (.int (96 : Int32)), (.int (124 : Int32)), (.int (126 : Int32))] (.int (0 : Int32))) :
    own_Met l Z (⟨"java/lang/StringLatin1", "indexOf", "([BIII)I"⟩ : MethodName) jdk_43_method_22_code 4 (some .int) ws ({ frames := 1, cells := 0, slots := 0, locals := 17 } : Room) #[(.ref o0), (.int p1), (.int (0 : Int32)), (.int (15 : Int32))] h0 (fun (v : Option Value) (h : Heap) (L : List Loc) => v = some (.int (own_fixl p1)) ∧ Fr n0 L ∧ h = h0) := by
  refine own_enter (plainFor_of_name own_pn_java_lang_StringLatin1) ?_
  intro p e s m below meth c s₁ P hx hby hml hrt hlk hown hnm hZ X0 e0 hP
  have N0 := Fr.nil n0
  have K0 := Keep.refl h0 []
  have hml' : c.maxLocals = 4 := hml
  refine own_cast (own_efixl m o0 p1) ?_
  show own_End p e below P (s₁.setTop (mkF m 0 #[.val (.ref o0), .val (.int p1), .val (.int (0 : Int32)), .val (.int (15 : Int32))] []))
  refine own_st (fun _ => XS.iloadN X0.here hx rfl (hb hby own_dixl_0) rfl) ?_
  show own_End p e below P (s₁.setTop (mkF m 1 #[.val (.ref o0), .val (.int p1), .val (.int (0 : Int32)), .val (.int (15 : Int32))] [(.int p1)]))
  refine own_callS X0 hx hZ (y := (⟨"java/lang/StringLatin1", "canEncode", "(I)Z"⟩ : MethodName)) hown (hw _ (List.mem_of_getElem? (i := 44) rfl)) (hw _ (List.mem_of_getElem? (i := 45) rfl)) (hw _ (List.mem_of_getElem? (i := 42) rfl)) (hw _ (List.mem_of_getElem? (i := 46) rfl)) (by decide) (own_mcan l Z a0 hw [] p1  h0 n0 (Nat.le_trans Z0 K0.1) ) 0 (by decide) (by decide) e0 (by decide) (by decide) (g := (mkF m 1 #[.val (.ref o0), .val (.int p1), .val (.int (0 : Int32)), .val (.int (15 : Int32))] [(.int p1)])) rfl (by rw [hml']; rfl) (argsL := [(.int p1)]) (rest := []) rfl (lenOf own_pd_I_Z_244 rfl) rfl (by show 2 * 0 + _ ≤ _; exact Nat.le_of_eq rfl) (hb hby own_dixl_1) (fun r1 T1 L1 X1 hQ1 => ?_)
  obtain ⟨rfl, Nq1, eq1⟩ := hQ1
  have N1 := Fr.app N0 Nq1
  show own_End p e below P (T1.setTop (mkF m 4 #[.val (.ref o0), .val (.int p1), .val (.int (0 : Int32)), .val (.int (15 : Int32))] [(.int (own_fcan p1))]))
  by_cases hc2 : (own_fcan p1) = (0 : Int32)
  · refine own_st (fun _ => XS.ifNo X1.here hx rfl (hb hby own_dixl_4) rfl ((if0 _ _).trans (teq hc2).2)) ?_
    show own_End p e below P (T1.setTop (mkF m 7 #[.val (.ref o0), .val (.int p1), .val (.int (0 : Int32)), .val (.int (15 : Int32))] []))
    refine own_st (fun _ => XS.iconst X1.here hx rfl (hb hby own_dixl_7)) ?_
    show own_End p e below P (T1.setTop (mkF m 8 #[.val (.ref o0), .val (.int p1), .val (.int (0 : Int32)), .val (.int (15 : Int32))] [(.int (-1 : Int32))]))
    refine own_retI X1 hx hlk hP hrt (hb hby own_dixl_8) (by decide) (by decide) ⟨congrArg (fun z => some (Value.int z)) ?_, N1, eq1⟩
    exact (show own_fixl p1 = (-1 : Int32) from (if_pos hc2).trans (rfl)).symm
  · refine own_st (fun _ => XS.ifYes X1.here hx rfl (pc0 := 4) (pc' := 9) rfl (hb hby own_dixl_4) rfl ((if0 _ _).trans (feq hc2).2) (by decide) (by decide)) ?_
    show own_End p e below P (T1.setTop (mkF m 9 #[.val (.ref o0), .val (.int p1), .val (.int (0 : Int32)), .val (.int (15 : Int32))] []))
    refine own_st (fun _ => XS.iloadN X1.here hx rfl (hb hby own_dixl_9) rfl) ?_
    show own_End p e below P (T1.setTop (mkF m 10 #[.val (.ref o0), .val (.int p1), .val (.int (0 : Int32)), .val (.int (15 : Int32))] [(.int (0 : Int32))]))
    refine own_st (fun _ => XS.iconst X1.here hx rfl (hb hby own_dixl_10)) ?_
    show own_End p e below P (T1.setTop (mkF m 11 #[.val (.ref o0), .val (.int p1), .val (.int (0 : Int32)), .val (.int (15 : Int32))] [(.int (0 : Int32)), (.int (0 : Int32))]))
    refine own_callS X1 hx hZ (y := (⟨"java/lang/Math", "max", "(II)I"⟩ : MethodName)) hown (hw _ (List.mem_of_getElem? (i := 47) rfl)) (hw _ (List.mem_of_getElem? (i := 48) rfl)) (hw _ (List.mem_of_getElem? (i := 49) rfl)) (hw _ (List.mem_of_getElem? (i := 50) rfl)) (by decide) (own_mmax l Z a0 hw [] (0 : Int32) (0 : Int32)  h0 n0 (Nat.le_trans Z0 K0.1) ) 0 (by decide) (by decide) eq1 (by decide) (by decide) (g := (mkF m 11 #[.val (.ref o0), .val (.int p1), .val (.int (0 : Int32)), .val (.int (15 : Int32))] [(.int (0 : Int32)), (.int (0 : Int32))])) rfl (by rw [hml']; rfl) (argsL := [(.int (0 : Int32)), (.int (0 : Int32))]) (rest := []) rfl (lenOf own_pd_II_I_300 rfl) rfl (by show 2 * 0 + _ ≤ _; exact Nat.le_of_eq rfl) (hb hby own_dixl_11) (fun r3 T3 L3 X3 hQ3 => ?_)
    obtain ⟨rfl, Nq3, eq3⟩ := hQ3
    have N3 := Fr.app N1 Nq3
    show own_End p e below P (T3.setTop (mkF m 14 #[.val (.ref o0), .val (.int p1), .val (.int (0 : Int32)), .val (.int (15 : Int32))] [(.int (own_fmax (0 : Int32) (0 : Int32)))]))
    rw [show (own_fmax (0 : Int32) (0 : Int32)) = (0 : Int32) from by decide]
    show own_End p e below P (T3.setTop (mkF m 14 #[.val (.ref o0), .val (.int p1), .val (.int (0 : Int32)), .val (.int (15 : Int32))] [(.int (0 : Int32))]))
    refine own_st (fun _ => XS.istoreN X3.here hx rfl (hb hby own_dixl_14) rfl (l' := #[.val (.ref o0), .val (.int p1), .val (.int (0 : Int32)), .val (.int (15 : Int32))]) rfl) ?_
    show own_End p e below P (T3.setTop (mkF m 15 #[.val (.ref o0), .val (.int p1), .val (.int (0 : Int32)), .val (.int (15 : Int32))] []))
    refine own_st (fun _ => XS.iloadN X3.here hx rfl (hb hby own_dixl_15) rfl) ?_
    show own_End p e below P (T3.setTop (mkF m 16 #[.val (.ref o0), .val (.int p1), .val (.int (0 : Int32)), .val (.int (15 : Int32))] [(.int (15 : Int32))]))
    refine own_st (fun _ => XS.aloadN X3.here hx rfl (hb hby own_dixl_16) rfl rfl) ?_
    show own_End p e below P (T3.setTop (mkF m 17 #[.val (.ref o0), .val (.int p1), .val (.int (0 : Int32)), .val (.int (15 : Int32))] [(.ref o0), (.int (15 : Int32))]))
    refine own_alenV X3 hx hZ eq3 V_o0 (g := (mkF m 17 #[.val (.ref o0), .val (.int p1), .val (.int (0 : Int32)), .val (.int (15 : Int32))] [(.ref o0), (.int (15 : Int32))])) rfl rfl (hb hby own_dixl_17) ?_
    show own_End p e below P (T3.setTop (mkF m 18 #[.val (.ref o0), .val (.int p1), .val (.int (0 : Int32)), .val (.int (15 : Int32))] [(.int (15 : Int32)), (.int (15 : Int32))]))
    refine own_callS X3 hx hZ (y := (⟨"java/lang/Math", "min", "(II)I"⟩ : MethodName)) hown (hw _ (List.mem_of_getElem? (i := 51) rfl)) (hw _ (List.mem_of_getElem? (i := 52) rfl)) (hw _ (List.mem_of_getElem? (i := 49) rfl)) (hw _ (List.mem_of_getElem? (i := 53) rfl)) (by decide) (own_mmin l Z a0 hw [] (15 : Int32) (15 : Int32)  h0 n0 (Nat.le_trans Z0 K0.1) ) 0 (by decide) (by decide) eq3 (by decide) (by decide) (g := (mkF m 18 #[.val (.ref o0), .val (.int p1), .val (.int (0 : Int32)), .val (.int (15 : Int32))] [(.int (15 : Int32)), (.int (15 : Int32))])) rfl (by rw [hml']; rfl) (argsL := [(.int (15 : Int32)), (.int (15 : Int32))]) (rest := []) rfl (lenOf own_pd_II_I_300 rfl) rfl (by show 2 * 0 + _ ≤ _; exact Nat.le_of_eq rfl) (hb hby own_dixl_18) (fun r4 T4 L4 X4 hQ4 => ?_)
    obtain ⟨rfl, Nq4, eq4⟩ := hQ4
    have N4 := Fr.app N3 Nq4
    show own_End p e below P (T4.setTop (mkF m 21 #[.val (.ref o0), .val (.int p1), .val (.int (0 : Int32)), .val (.int (15 : Int32))] [(.int (own_fmin (15 : Int32) (15 : Int32)))]))
    rw [show (own_fmin (15 : Int32) (15 : Int32)) = (15 : Int32) from by decide]
    show own_End p e below P (T4.setTop (mkF m 21 #[.val (.ref o0), .val (.int p1), .val (.int (0 : Int32)), .val (.int (15 : Int32))] [(.int (15 : Int32))]))
    refine own_st (fun _ => XS.istoreN X4.here hx rfl (hb hby own_dixl_21) rfl (l' := #[.val (.ref o0), .val (.int p1), .val (.int (0 : Int32)), .val (.int (15 : Int32))]) rfl) ?_
    show own_End p e below P (T4.setTop (mkF m 22 #[.val (.ref o0), .val (.int p1), .val (.int (0 : Int32)), .val (.int (15 : Int32))] []))
    refine own_st (fun _ => XS.iloadN X4.here hx rfl (hb hby own_dixl_22) rfl) ?_
    show own_End p e below P (T4.setTop (mkF m 23 #[.val (.ref o0), .val (.int p1), .val (.int (0 : Int32)), .val (.int (15 : Int32))] [(.int (0 : Int32))]))
    refine own_st (fun _ => XS.iloadN X4.here hx rfl (hb hby own_dixl_23) rfl) ?_
    show own_End p e below P (T4.setTop (mkF m 24 #[.val (.ref o0), .val (.int p1), .val (.int (0 : Int32)), .val (.int (15 : Int32))] [(.int (15 : Int32)), (.int (0 : Int32))]))
    refine own_st (fun _ => XS.icmpYes X4.here hx rfl (pc0 := 24) (pc' := 29) rfl (hb hby own_dixl_24) rfl (tlt (by decide : (0 : Int32) < (15 : Int32))).1 (by decide) (by decide)) ?_
    show own_End p e below P (T4.setTop (mkF m 29 #[.val (.ref o0), .val (.int p1), .val (.int (0 : Int32)), .val (.int (15 : Int32))] []))
    refine own_st (fun _ => XS.aloadN X4.here hx rfl (hb hby own_dixl_29) rfl rfl) ?_
    show own_End p e below P (T4.setTop (mkF m 30 #[.val (.ref o0), .val (.int p1), .val (.int (0 : Int32)), .val (.int (15 : Int32))] [(.ref o0)]))
    refine own_st (fun _ => XS.iloadN X4.here hx rfl (hb hby own_dixl_30) rfl) ?_
    show own_End p e below P (T4.setTop (mkF m 31 #[.val (.ref o0), .val (.int p1), .val (.int (0 : Int32)), .val (.int (15 : Int32))] [(.int p1), (.ref o0)]))
    refine own_st (fun _ => XS.iloadN X4.here hx rfl (hb hby own_dixl_31) rfl) ?_
    show own_End p e below P (T4.setTop (mkF m 32 #[.val (.ref o0), .val (.int p1), .val (.int (0 : Int32)), .val (.int (15 : Int32))] [(.int (0 : Int32)), (.int p1), (.ref o0)]))
    refine own_st (fun _ => XS.iloadN X4.here hx rfl (hb hby own_dixl_32) rfl) ?_
    show own_End p e below P (T4.setTop (mkF m 33 #[.val (.ref o0), .val (.int p1), .val (.int (0 : Int32)), .val (.int (15 : Int32))] [(.int (15 : Int32)), (.int (0 : Int32)), (.int p1), (.ref o0)]))
    refine own_callS X4 hx hZ (y := (⟨"java/lang/StringLatin1", "indexOfChar", "([BIII)I"⟩ : MethodName)) hown (hw _ (List.mem_of_getElem? (i := 54) rfl)) (hw _ (List.mem_of_getElem? (i := 55) rfl)) (hw _ (List.mem_of_getElem? (i := 42) rfl)) (hw _ (List.mem_of_getElem? (i := 56) rfl)) (by decide) (own_mixc l Z a0 hw [] o0 p1 k_o0 h0 n0 (Nat.le_trans Z0 K0.1) V_o0) 0 (by decide) (by decide) eq4 (by decide) (by decide) (g := (mkF m 33 #[.val (.ref o0), .val (.int p1), .val (.int (0 : Int32)), .val (.int (15 : Int32))] [(.int (15 : Int32)), (.int (0 : Int32)), (.int p1), (.ref o0)])) rfl (by rw [hml']; rfl) (argsL := [(.ref o0), (.int p1), (.int (0 : Int32)), (.int (15 : Int32))]) (rest := []) rfl (lenOf own_pd_BIII_I_530 rfl) rfl (by show 2 * 0 + _ ≤ _; exact Nat.le_of_eq rfl) (hb hby own_dixl_33) (fun r5 T5 L5 X5 hQ5 => ?_)
    obtain ⟨rfl, Nq5, eq5⟩ := hQ5
    have N5 := Fr.app N4 Nq5
    show own_End p e below P (T5.setTop (mkF m 36 #[.val (.ref o0), .val (.int p1), .val (.int (0 : Int32)), .val (.int (15 : Int32))] [(.int (own_fixc p1))]))
    refine own_retI X5 hx hlk hP hrt (hb hby own_dixl_36) (by decide) (by decide) ⟨congrArg (fun z => some (Value.int z)) ?_, N5, eq5⟩
    exact (show own_fixl p1 = (own_fixc p1) from (if_neg hc2).trans (rfl)).symm
theorem own_disl_0 : decode jdk_42_method_154_code 0 = .ok (.getstatic 38, 3) := by decide +kernel
theorem own_disl_3 : decode jdk_42_method_154_code 3 = .ok (.ifCond .eq 14, 3) := by decide +kernel
theorem own_disl_6 : decode jdk_42_method_154_code 6 = .ok (.aload_n 0, 1) := by decide +kernel
theorem own_disl_7 : decode jdk_42_method_154_code 7 = .ok (.getfield 15, 3) := by decide +kernel
theorem own_disl_10 : decode jdk_42_method_154_code 10 = .ok (.ifCond .ne 7, 3) := by decide +kernel
theorem own_disl_13 : decode jdk_42_method_154_code 13 = .ok (.iconst 1, 1) := by decide +kernel
theorem own_disl_14 : decode jdk_42_method_154_code 14 = .ok (.goto 4, 3) := by decide +kernel
theorem own_disl_18 : decode jdk_42_method_154_code 18 = .ok (.ireturn, 1) := by decide +kernel
theorem own_efisl (m : MethodId) (o0 : Addr) : entryFrame m #[(.ref o0)] 1 = mkF m 0 #[.val (.ref o0)] [] := by first | (simp [entryFrame, mkF, argsToLocals, Value.category]; done) | rfl
def own_fisl (s_String_COMPACT_STRINGS : Int32) : Int32 := (1 : Int32)
theorem own_pn_java_lang_String : plainName "java/lang/String" = true := by first | (simp [plainName, overriddenIn]; done) | decide +kernel
set_option maxRecDepth 65536 in
set_option maxHeartbeats 40000000 in
theorem own_misl (l : Launch) (Z : State) (a0 : Array Value) (hw : ∀ d ∈ tables_1, d.before a0 Z = true) (ws : List Jvm.Cond) (o0 : Addr) (s_String_COMPACT_STRINGS : Int32) (h0 : Heap) (n0 : Nat) (Z0 : n0 ≤ h0.size) (F_o0_coder : Fld Z h0 o0 "java/lang/String" "coder" "B" (.int (0 : Int32))) (S_String_COMPACT_STRINGS : Sta Z h0 "java/lang/String" "COMPACT_STRINGS" "Z" (.int s_String_COMPACT_STRINGS)) (hnz : ¬ (s_String_COMPACT_STRINGS = (0 : Int32))) :
    own_Met l Z (⟨"java/lang/String", "isLatin1", "()Z"⟩ : MethodName) jdk_42_method_154_code 1 (some .boolean) ws ({ frames := 0, cells := 0, slots := 0, locals := 0 } : Room) #[(.ref o0)] h0 (fun (v : Option Value) (h : Heap) (L : List Loc) => v = some (.int (own_fisl s_String_COMPACT_STRINGS)) ∧ Fr n0 L ∧ h = h0) := by
  refine own_enter (plainFor_of_name own_pn_java_lang_String) ?_
  intro p e s m below meth c s₁ P hx hby hml hrt hlk hown hnm hZ X0 e0 hP
  have N0 := Fr.nil n0
  have K0 := Keep.refl h0 []
  have hml' : c.maxLocals = 1 := hml
  refine own_cast (own_efisl m o0) ?_
  show own_End p e below P (s₁.setTop (mkF m 0 #[.val (.ref o0)] []))
  obtain ⟨T1, X1, e1, st1⟩ := getS2 X0 hx hZ hown (host := "") (Or.inl (hw _ (List.mem_of_getElem? (i := 27) rfl))) Via.refl e0 S_String_COMPACT_STRINGS (g := (mkF m 0 #[.val (.ref o0)] [])) rfl (hb hby own_disl_0)
  refine own_st (fun _ => st1 _) ?_
  show own_End p e below P (T1.setTop (mkF m 3 #[.val (.ref o0)] [(.int s_String_COMPACT_STRINGS)]))
  refine own_st (fun _ => XS.ifNo X1.here hx rfl (hb hby own_disl_3) rfl ((if0 _ _).trans (feq hnz).1)) ?_
  show own_End p e below P (T1.setTop (mkF m 6 #[.val (.ref o0)] []))
  refine own_st (fun _ => XS.aloadN X1.here hx rfl (hb hby own_disl_6) rfl rfl) ?_
  show own_End p e below P (T1.setTop (mkF m 7 #[.val (.ref o0)] [(.ref o0)]))
  obtain ⟨T2, X2, e2, st2⟩ := getF X1 hx hZ hown (host := "") (Or.inl (hw _ (List.mem_of_getElem? (i := 28) rfl))) Via.refl e1 F_o0_coder (g := (mkF m 7 #[.val (.ref o0)] [(.ref o0)])) rfl rfl (hb hby own_disl_7)
  refine own_st (fun _ => st2 _) ?_
  show own_End p e below P (T2.setTop (mkF m 10 #[.val (.ref o0)] [(.int (0 : Int32))]))
  refine own_st (fun _ => XS.ifNo X2.here hx rfl (hb hby own_disl_10) rfl ((if0 _ _).trans (teq (by decide : (0 : Int32) = (0 : Int32))).2)) ?_
  show own_End p e below P (T2.setTop (mkF m 13 #[.val (.ref o0)] []))
  refine own_st (fun _ => XS.iconst X2.here hx rfl (hb hby own_disl_13)) ?_
  show own_End p e below P (T2.setTop (mkF m 14 #[.val (.ref o0)] [(.int (1 : Int32))]))
  refine own_st (fun _ => XS.goto X2.here hx rfl (pc0 := 14) (pc' := 18) rfl (hb hby own_disl_14) (by decide) (by decide)) ?_
  show own_End p e below P (T2.setTop (mkF m 18 #[.val (.ref o0)] [(.int (1 : Int32))]))
  refine own_retN X2 hx hlk hP (t := .boolean) (by simp) hrt (hb hby own_disl_18) (by decide) (by decide) ⟨congrArg (fun z => some (Value.int z)) ?_, N0, e2⟩
  exact (show own_fisl s_String_COMPACT_STRINGS = (1 : Int32) from rfl).symm
theorem own_dcod_0 : decode jdk_42_method_152_code 0 = .ok (.getstatic 38, 3) := by decide +kernel
theorem own_dcod_3 : decode jdk_42_method_152_code 3 = .ok (.ifCond .eq 10, 3) := by decide +kernel
theorem own_dcod_6 : decode jdk_42_method_152_code 6 = .ok (.aload_n 0, 1) := by decide +kernel
theorem own_dcod_7 : decode jdk_42_method_152_code 7 = .ok (.getfield 15, 3) := by decide +kernel
theorem own_dcod_10 : decode jdk_42_method_152_code 10 = .ok (.goto 4, 3) := by decide +kernel
theorem own_dcod_14 : decode jdk_42_method_152_code 14 = .ok (.ireturn, 1) := by decide +kernel
theorem own_efcod (m : MethodId) (o0 : Addr) : entryFrame m #[(.ref o0)] 1 = mkF m 0 #[.val (.ref o0)] [] := by first | (simp [entryFrame, mkF, argsToLocals, Value.category]; done) | rfl
def own_fcod (s_String_COMPACT_STRINGS : Int32) : Int32 := (0 : Int32)
set_option maxRecDepth 65536 in
set_option maxHeartbeats 40000000 in
theorem own_mcod (l : Launch) (Z : State) (a0 : Array Value) (hw : ∀ d ∈ tables_1, d.before a0 Z = true) (ws : List Jvm.Cond) (o0 : Addr) (s_String_COMPACT_STRINGS : Int32) (h0 : Heap) (n0 : Nat) (Z0 : n0 ≤ h0.size) (F_o0_coder : Fld Z h0 o0 "java/lang/String" "coder" "B" (.int (0 : Int32))) (S_String_COMPACT_STRINGS : Sta Z h0 "java/lang/String" "COMPACT_STRINGS" "Z" (.int s_String_COMPACT_STRINGS)) (hnz : ¬ (s_String_COMPACT_STRINGS = (0 : Int32))) :
    own_Met l Z (⟨"java/lang/String", "coder", "()B"⟩ : MethodName) jdk_42_method_152_code 1 (some .byte) ws ({ frames := 0, cells := 0, slots := 0, locals := 0 } : Room) #[(.ref o0)] h0 (fun (v : Option Value) (h : Heap) (L : List Loc) => v = some (.int (own_fcod s_String_COMPACT_STRINGS)) ∧ Fr n0 L ∧ h = h0) := by
  refine own_enter (plainFor_of_name own_pn_java_lang_String) ?_
  intro p e s m below meth c s₁ P hx hby hml hrt hlk hown hnm hZ X0 e0 hP
  have N0 := Fr.nil n0
  have K0 := Keep.refl h0 []
  have hml' : c.maxLocals = 1 := hml
  refine own_cast (own_efcod m o0) ?_
  show own_End p e below P (s₁.setTop (mkF m 0 #[.val (.ref o0)] []))
  obtain ⟨T1, X1, e1, st1⟩ := getS2 X0 hx hZ hown (host := "") (Or.inl (hw _ (List.mem_of_getElem? (i := 27) rfl))) Via.refl e0 S_String_COMPACT_STRINGS (g := (mkF m 0 #[.val (.ref o0)] [])) rfl (hb hby own_dcod_0)
  refine own_st (fun _ => st1 _) ?_
  show own_End p e below P (T1.setTop (mkF m 3 #[.val (.ref o0)] [(.int s_String_COMPACT_STRINGS)]))
  refine own_st (fun _ => XS.ifNo X1.here hx rfl (hb hby own_dcod_3) rfl ((if0 _ _).trans (feq hnz).1)) ?_
  show own_End p e below P (T1.setTop (mkF m 6 #[.val (.ref o0)] []))
  refine own_st (fun _ => XS.aloadN X1.here hx rfl (hb hby own_dcod_6) rfl rfl) ?_
  show own_End p e below P (T1.setTop (mkF m 7 #[.val (.ref o0)] [(.ref o0)]))
  obtain ⟨T2, X2, e2, st2⟩ := getF X1 hx hZ hown (host := "") (Or.inl (hw _ (List.mem_of_getElem? (i := 28) rfl))) Via.refl e1 F_o0_coder (g := (mkF m 7 #[.val (.ref o0)] [(.ref o0)])) rfl rfl (hb hby own_dcod_7)
  refine own_st (fun _ => st2 _) ?_
  show own_End p e below P (T2.setTop (mkF m 10 #[.val (.ref o0)] [(.int (0 : Int32))]))
  refine own_st (fun _ => XS.goto X2.here hx rfl (pc0 := 10) (pc' := 14) rfl (hb hby own_dcod_10) (by decide) (by decide)) ?_
  show own_End p e below P (T2.setTop (mkF m 14 #[.val (.ref o0)] [(.int (0 : Int32))]))
  refine own_retN X2 hx hlk hP (t := .byte) (by simp) hrt (hb hby own_dcod_14) (by decide) (by decide) ⟨congrArg (fun z => some (Value.int z)) ?_, N0, e2⟩
  exact (show own_fcod s_String_COMPACT_STRINGS = (0 : Int32) from rfl).symm
theorem own_dlen_0 : decode jdk_42_method_54_code 0 = .ok (.aload_n 0, 1) := by decide +kernel
theorem own_dlen_1 : decode jdk_42_method_54_code 1 = .ok (.getfield 9, 3) := by decide +kernel
theorem own_dlen_4 : decode jdk_42_method_54_code 4 = .ok (.arraylength, 1) := by decide +kernel
theorem own_dlen_5 : decode jdk_42_method_54_code 5 = .ok (.aload_n 0, 1) := by decide +kernel
theorem own_dlen_6 : decode jdk_42_method_54_code 6 = .ok (.invokevirtual 335, 3) := by decide +kernel
theorem own_pd_B_147 : parseMethodDescriptor "()B" = some ⟨[], some .byte⟩ := by decide +kernel
theorem own_dlen_9 : decode jdk_42_method_54_code 9 = .ok (.ishr, 1) := by decide +kernel
theorem own_dlen_10 : decode jdk_42_method_54_code 10 = .ok (.ireturn, 1) := by decide +kernel
theorem own_eflen (m : MethodId) (o0 : Addr) : entryFrame m #[(.ref o0)] 1 = mkF m 0 #[.val (.ref o0)] [] := by first | (simp [entryFrame, mkF, argsToLocals, Value.category]; done) | rfl
def own_flen (s_String_COMPACT_STRINGS : Int32) : Int32 := (15 : Int32)
set_option maxRecDepth 65536 in
set_option maxHeartbeats 40000000 in
theorem own_mlen (l : Launch) (Z : State) (a0 : Array Value) (hw : ∀ d ∈ tables_1, d.before a0 Z = true) (ws : List Jvm.Cond) (o0 : Addr) (w_o0_value : Addr) (s_String_COMPACT_STRINGS : Int32) (k_w_o0_value : ClassId) (h0 : Heap) (n0 : Nat) (Z0 : n0 ≤ h0.size) (E_o0 : Exa Z h0 o0 "java/lang/String") (F_o0_value : Fld Z h0 o0 "java/lang/String" "value" "[B" (.ref w_o0_value)) (F_o0_coder : Fld Z h0 o0 "java/lang/String" "coder" "B" (.int (0 : Int32))) (S_String_COMPACT_STRINGS : Sta Z h0 "java/lang/String" "COMPACT_STRINGS" "Z" (.int s_String_COMPACT_STRINGS)) (V_w_o0_value : Arv Z h0 w_o0_value k_w_o0_value .byte (15 : Int32) [(.int (33 : Int32)), (.int (35 : Int32)), (.int (36 : Int32)), (.int (37 : Int32)), (.int (38 : Int32)), (.int (39 : Int32)), (.int (42 : Int32)), (.int (43 : Int32)), (.int (45 : Int32)), (.int (46 : Int32)), (.int (94 : Int32)), (.int (95 : Int32)), (.int (96 : Int32)), (.int (124 : Int32)), (.int (126 : Int32))] (.int (0 : Int32))) (hnz : ¬ (s_String_COMPACT_STRINGS = (0 : Int32))) :
    own_Met l Z (⟨"java/lang/String", "length", "()I"⟩ : MethodName) jdk_42_method_54_code 1 (some .int) ws ({ frames := 1, cells := 0, slots := 0, locals := 13 } : Room) #[(.ref o0)] h0 (fun (v : Option Value) (h : Heap) (L : List Loc) => v = some (.int (own_flen s_String_COMPACT_STRINGS)) ∧ Fr n0 L ∧ h = h0) := by
  refine own_enter (plainFor_of_name own_pn_java_lang_String) ?_
  intro p e s m below meth c s₁ P hx hby hml hrt hlk hown hnm hZ X0 e0 hP
  have N0 := Fr.nil n0
  have K0 := Keep.refl h0 []
  have hml' : c.maxLocals = 1 := hml
  refine own_cast (own_eflen m o0) ?_
  show own_End p e below P (s₁.setTop (mkF m 0 #[.val (.ref o0)] []))
  refine own_st (fun _ => XS.aloadN X0.here hx rfl (hb hby own_dlen_0) rfl rfl) ?_
  show own_End p e below P (s₁.setTop (mkF m 1 #[.val (.ref o0)] [(.ref o0)]))
  obtain ⟨T1, X1, e1, st1⟩ := getF X0 hx hZ hown (host := "") (Or.inl (hw _ (List.mem_of_getElem? (i := 29) rfl))) Via.refl e0 F_o0_value (g := (mkF m 1 #[.val (.ref o0)] [(.ref o0)])) rfl rfl (hb hby own_dlen_1)
  refine own_st (fun _ => st1 _) ?_
  show own_End p e below P (T1.setTop (mkF m 4 #[.val (.ref o0)] [(.ref w_o0_value)]))
  refine own_alenV X1 hx hZ e1 V_w_o0_value (g := (mkF m 4 #[.val (.ref o0)] [(.ref w_o0_value)])) rfl rfl (hb hby own_dlen_4) ?_
  show own_End p e below P (T1.setTop (mkF m 5 #[.val (.ref o0)] [(.int (15 : Int32))]))
  refine own_st (fun _ => XS.aloadN X1.here hx rfl (hb hby own_dlen_5) rfl rfl) ?_
  show own_End p e below P (T1.setTop (mkF m 6 #[.val (.ref o0)] [(.ref o0), (.int (15 : Int32))]))
  refine own_callV X1 hx hZ (y := (⟨"java/lang/String", "coder", "()B"⟩ : MethodName)) (z := (⟨"java/lang/String", "coder", "()B"⟩ : MethodName)) hown (hw _ (List.mem_of_getElem? (i := 35) rfl)) (hw _ (List.mem_of_getElem? (i := 36) rfl)) (notFace_of_selects (args := #[]) (mvT hZ (hw _ (List.mem_of_getElem? (i := 38) rfl)))) (hw _ (List.mem_of_getElem? (i := 38) rfl)) (hw _ (List.mem_of_getElem? (i := 37) rfl)) (hw _ (List.mem_of_getElem? (i := 5) rfl)) (hw _ (List.mem_of_getElem? (i := 39) rfl)) (by decide) E_o0 (own_mcod l Z a0 hw [] o0 s_String_COMPACT_STRINGS h0 n0 (Nat.le_trans Z0 K0.1) F_o0_coder S_String_COMPACT_STRINGS hnz) 1 (by decide) (by decide) e1 (by decide) (by decide) (g := (mkF m 6 #[.val (.ref o0)] [(.ref o0), (.int (15 : Int32))])) rfl (by rw [hml']; rfl) (argsL := []) (rest := [(.int (15 : Int32))]) rfl (lenOf own_pd_B_147 rfl) rfl (by show 2 * 0 + _ ≤ _; exact Nat.le_of_eq rfl) (hb hby own_dlen_6) (fun r2 T2 L2 X2 hQ2 => ?_)
  obtain ⟨rfl, Nq2, eq2⟩ := hQ2
  have N2 := Fr.app N0 Nq2
  show own_End p e below P (T2.setTop (mkF m 9 #[.val (.ref o0)] [(.int (0 : Int32)), (.int (15 : Int32))]))
  refine own_st (fun _ => XS.ishr X2.here hx rfl (hb hby own_dlen_9) rfl) ?_
  show own_End p e below P (T2.setTop (mkF m 10 #[.val (.ref o0)] [(.int ((15 : Int32) >>> ((0 : Int32) &&& 31)))]))
  rw [show ((15 : Int32) >>> ((0 : Int32) &&& 31)) = (15 : Int32) from by decide]
  show own_End p e below P (T2.setTop (mkF m 10 #[.val (.ref o0)] [(.int (15 : Int32))]))
  refine own_retI X2 hx hlk hP hrt (hb hby own_dlen_10) (by decide) (by decide) ⟨congrArg (fun z => some (Value.int z)) ?_, N2, eq2⟩
  exact (show own_flen s_String_COMPACT_STRINGS = (15 : Int32) from rfl).symm
theorem own_dix2_0 : decode jdk_42_method_80_code 0 = .ok (.aload_n 0, 1) := by decide +kernel
theorem own_dix2_1 : decode jdk_42_method_80_code 1 = .ok (.invokevirtual 492, 3) := by decide +kernel
theorem own_pd_Z_171 : parseMethodDescriptor "()Z" = some ⟨[], some .boolean⟩ := by decide +kernel
theorem own_dix2_4 : decode jdk_42_method_80_code 4 = .ok (.ifCond .eq 19, 3) := by decide +kernel
theorem own_dix2_7 : decode jdk_42_method_80_code 7 = .ok (.aload_n 0, 1) := by decide +kernel
theorem own_dix2_8 : decode jdk_42_method_80_code 8 = .ok (.getfield 9, 3) := by decide +kernel
theorem own_dix2_11 : decode jdk_42_method_80_code 11 = .ok (.iload_n 1, 1) := by decide +kernel
theorem own_dix2_12 : decode jdk_42_method_80_code 12 = .ok (.iload_n 2, 1) := by decide +kernel
theorem own_dix2_13 : decode jdk_42_method_80_code 13 = .ok (.aload_n 0, 1) := by decide +kernel
theorem own_dix2_14 : decode jdk_42_method_80_code 14 = .ok (.invokevirtual 505, 3) := by decide +kernel
theorem own_pd_I_154 : parseMethodDescriptor "()I" = some ⟨[], some .int⟩ := by decide +kernel
theorem own_dix2_17 : decode jdk_42_method_80_code 17 = .ok (.invokestatic 637, 3) := by decide +kernel
theorem own_dix2_20 : decode jdk_42_method_80_code 20 = .ok (.goto 16, 3) := by decide +kernel
theorem own_dix2_36 : decode jdk_42_method_80_code 36 = .ok (.ireturn, 1) := by decide +kernel
theorem own_efix2 (m : MethodId) (o0 : Addr) (p1 : Int32) : entryFrame m #[(.ref o0), (.int p1), (.int (0 : Int32))] 3 = mkF m 0 #[.val (.ref o0), .val (.int p1), .val (.int (0 : Int32))] [] := by first | (simp [entryFrame, mkF, argsToLocals, Value.category]; done) | rfl
def own_fix2 (p1 : Int32) (s_String_COMPACT_STRINGS : Int32) : Int32 := (own_fixl p1)
set_option maxRecDepth 65536 in
set_option maxHeartbeats 40000000 in
theorem own_mix2 (l : Launch) (Z : State) (a0 : Array Value) (hw : ∀ d ∈ tables_1, d.before a0 Z = true) (ws : List Jvm.Cond) (o0 : Addr) (p1 : Int32) (w_o0_value : Addr) (s_String_COMPACT_STRINGS : Int32) (k_w_o0_value : ClassId) (h0 : Heap) (n0 : Nat) (Z0 : n0 ≤ h0.size) (E_o0 : Exa Z h0 o0 "java/lang/String") (F_o0_value : Fld Z h0 o0 "java/lang/String" "value" "[B" (.ref w_o0_value)) (F_o0_coder : Fld Z h0 o0 "java/lang/String" "coder" "B" (.int (0 : Int32))) (S_String_COMPACT_STRINGS : Sta Z h0 "java/lang/String" "COMPACT_STRINGS" "Z" (.int s_String_COMPACT_STRINGS)) (V_w_o0_value : Arv Z h0 w_o0_value k_w_o0_value .byte (15 : Int32) [(.int (33 : Int32)), (.int (35 : Int32)), (.int (36 : Int32)), (.int (37 : Int32)), (.int (38 : Int32)), (.int (39 : Int32)), (.int (42 : Int32)), (.int (43 : Int32)), (.int (45 : Int32)), (.int (46 : Int32)), (.int (94 : Int32)), (.int (95 : Int32)), (.int (96 : Int32)), (.int (124 : Int32)), (.int (126 : Int32))] (.int (0 : Int32))) (hnz : ¬ (s_String_COMPACT_STRINGS = (0 : Int32))) :
    own_Met l Z (⟨"java/lang/String", "indexOf", "(II)I"⟩ : MethodName) jdk_42_method_80_code 3 (some .int) ws ({ frames := 2, cells := 0, slots := 0, locals := 32 } : Room) #[(.ref o0), (.int p1), (.int (0 : Int32))] h0 (fun (v : Option Value) (h : Heap) (L : List Loc) => v = some (.int (own_fix2 p1 s_String_COMPACT_STRINGS)) ∧ Fr n0 L ∧ h = h0) := by
  refine own_enter (plainFor_of_name own_pn_java_lang_String) ?_
  intro p e s m below meth c s₁ P hx hby hml hrt hlk hown hnm hZ X0 e0 hP
  have N0 := Fr.nil n0
  have K0 := Keep.refl h0 []
  have hml' : c.maxLocals = 3 := hml
  refine own_cast (own_efix2 m o0 p1) ?_
  show own_End p e below P (s₁.setTop (mkF m 0 #[.val (.ref o0), .val (.int p1), .val (.int (0 : Int32))] []))
  refine own_st (fun _ => XS.aloadN X0.here hx rfl (hb hby own_dix2_0) rfl rfl) ?_
  show own_End p e below P (s₁.setTop (mkF m 1 #[.val (.ref o0), .val (.int p1), .val (.int (0 : Int32))] [(.ref o0)]))
  refine own_callV X0 hx hZ (y := (⟨"java/lang/String", "isLatin1", "()Z"⟩ : MethodName)) (z := (⟨"java/lang/String", "isLatin1", "()Z"⟩ : MethodName)) hown (hw _ (List.mem_of_getElem? (i := 22) rfl)) (hw _ (List.mem_of_getElem? (i := 23) rfl)) (notFace_of_selects (args := #[]) (mvT hZ (hw _ (List.mem_of_getElem? (i := 25) rfl)))) (hw _ (List.mem_of_getElem? (i := 25) rfl)) (hw _ (List.mem_of_getElem? (i := 24) rfl)) (hw _ (List.mem_of_getElem? (i := 5) rfl)) (hw _ (List.mem_of_getElem? (i := 26) rfl)) (by decide) E_o0 (own_misl l Z a0 hw [] o0 s_String_COMPACT_STRINGS h0 n0 (Nat.le_trans Z0 K0.1) F_o0_coder S_String_COMPACT_STRINGS hnz) 0 (by decide) (by decide) e0 (by decide) (by decide) (g := (mkF m 1 #[.val (.ref o0), .val (.int p1), .val (.int (0 : Int32))] [(.ref o0)])) rfl (by rw [hml']; rfl) (argsL := []) (rest := []) rfl (lenOf own_pd_Z_171 rfl) rfl (by show 2 * 0 + _ ≤ _; exact Nat.le_of_eq rfl) (hb hby own_dix2_1) (fun r1 T1 L1 X1 hQ1 => ?_)
  obtain ⟨rfl, Nq1, eq1⟩ := hQ1
  have N1 := Fr.app N0 Nq1
  show own_End p e below P (T1.setTop (mkF m 4 #[.val (.ref o0), .val (.int p1), .val (.int (0 : Int32))] [(.int (1 : Int32))]))
  refine own_st (fun _ => XS.ifNo X1.here hx rfl (hb hby own_dix2_4) rfl ((if0 _ _).trans (feq (by decide : ¬ ((1 : Int32) = (0 : Int32)))).1)) ?_
  show own_End p e below P (T1.setTop (mkF m 7 #[.val (.ref o0), .val (.int p1), .val (.int (0 : Int32))] []))
  refine own_st (fun _ => XS.aloadN X1.here hx rfl (hb hby own_dix2_7) rfl rfl) ?_
  show own_End p e below P (T1.setTop (mkF m 8 #[.val (.ref o0), .val (.int p1), .val (.int (0 : Int32))] [(.ref o0)]))
  obtain ⟨T2, X2, e2, st2⟩ := getF X1 hx hZ hown (host := "") (Or.inl (hw _ (List.mem_of_getElem? (i := 29) rfl))) Via.refl eq1 F_o0_value (g := (mkF m 8 #[.val (.ref o0), .val (.int p1), .val (.int (0 : Int32))] [(.ref o0)])) rfl rfl (hb hby own_dix2_8)
  refine own_st (fun _ => st2 _) ?_
  show own_End p e below P (T2.setTop (mkF m 11 #[.val (.ref o0), .val (.int p1), .val (.int (0 : Int32))] [(.ref w_o0_value)]))
  refine own_st (fun _ => XS.iloadN X2.here hx rfl (hb hby own_dix2_11) rfl) ?_
  show own_End p e below P (T2.setTop (mkF m 12 #[.val (.ref o0), .val (.int p1), .val (.int (0 : Int32))] [(.int p1), (.ref w_o0_value)]))
  refine own_st (fun _ => XS.iloadN X2.here hx rfl (hb hby own_dix2_12) rfl) ?_
  show own_End p e below P (T2.setTop (mkF m 13 #[.val (.ref o0), .val (.int p1), .val (.int (0 : Int32))] [(.int (0 : Int32)), (.int p1), (.ref w_o0_value)]))
  refine own_st (fun _ => XS.aloadN X2.here hx rfl (hb hby own_dix2_13) rfl rfl) ?_
  show own_End p e below P (T2.setTop (mkF m 14 #[.val (.ref o0), .val (.int p1), .val (.int (0 : Int32))] [(.ref o0), (.int (0 : Int32)), (.int p1), (.ref w_o0_value)]))
  refine own_callV X2 hx hZ (y := (⟨"java/lang/String", "length", "()I"⟩ : MethodName)) (z := (⟨"java/lang/String", "length", "()I"⟩ : MethodName)) hown (hw _ (List.mem_of_getElem? (i := 30) rfl)) (hw _ (List.mem_of_getElem? (i := 31) rfl)) (notFace_of_selects (args := #[]) (mvT hZ (hw _ (List.mem_of_getElem? (i := 33) rfl)))) (hw _ (List.mem_of_getElem? (i := 33) rfl)) (hw _ (List.mem_of_getElem? (i := 32) rfl)) (hw _ (List.mem_of_getElem? (i := 5) rfl)) (hw _ (List.mem_of_getElem? (i := 34) rfl)) (by decide) E_o0 (own_mlen l Z a0 hw [] o0 w_o0_value s_String_COMPACT_STRINGS k_w_o0_value h0 n0 (Nat.le_trans Z0 K0.1) E_o0 F_o0_value F_o0_coder S_String_COMPACT_STRINGS V_w_o0_value hnz) 3 (by decide) (by decide) e2 (by decide) (by decide) (g := (mkF m 14 #[.val (.ref o0), .val (.int p1), .val (.int (0 : Int32))] [(.ref o0), (.int (0 : Int32)), (.int p1), (.ref w_o0_value)])) rfl (by rw [hml']; rfl) (argsL := []) (rest := [(.int (0 : Int32)), (.int p1), (.ref w_o0_value)]) rfl (lenOf own_pd_I_154 rfl) rfl (by show 2 * 0 + _ ≤ _; exact Nat.le_of_eq rfl) (hb hby own_dix2_14) (fun r3 T3 L3 X3 hQ3 => ?_)
  obtain ⟨rfl, Nq3, eq3⟩ := hQ3
  have N3 := Fr.app N1 Nq3
  show own_End p e below P (T3.setTop (mkF m 17 #[.val (.ref o0), .val (.int p1), .val (.int (0 : Int32))] [(.int (15 : Int32)), (.int (0 : Int32)), (.int p1), (.ref w_o0_value)]))
  refine own_callS X3 hx hZ (y := (⟨"java/lang/StringLatin1", "indexOf", "([BIII)I"⟩ : MethodName)) hown (hw _ (List.mem_of_getElem? (i := 40) rfl)) (hw _ (List.mem_of_getElem? (i := 41) rfl)) (hw _ (List.mem_of_getElem? (i := 42) rfl)) (hw _ (List.mem_of_getElem? (i := 43) rfl)) (by decide) (own_mixl l Z a0 hw [] w_o0_value p1 k_w_o0_value h0 n0 (Nat.le_trans Z0 K0.1) V_w_o0_value) 0 (by decide) (by decide) eq3 (by decide) (by decide) (g := (mkF m 17 #[.val (.ref o0), .val (.int p1), .val (.int (0 : Int32))] [(.int (15 : Int32)), (.int (0 : Int32)), (.int p1), (.ref w_o0_value)])) rfl (by rw [hml']; rfl) (argsL := [(.ref w_o0_value), (.int p1), (.int (0 : Int32)), (.int (15 : Int32))]) (rest := []) rfl (lenOf own_pd_BIII_I_530 rfl) rfl (by show 2 * 0 + _ ≤ _; exact Nat.le_of_eq rfl) (hb hby own_dix2_17) (fun r4 T4 L4 X4 hQ4 => ?_)
  obtain ⟨rfl, Nq4, eq4⟩ := hQ4
  have N4 := Fr.app N3 Nq4
  show own_End p e below P (T4.setTop (mkF m 20 #[.val (.ref o0), .val (.int p1), .val (.int (0 : Int32))] [(.int (own_fixl p1))]))
  refine own_st (fun _ => XS.goto X4.here hx rfl (pc0 := 20) (pc' := 36) rfl (hb hby own_dix2_20) (by decide) (by decide)) ?_
  show own_End p e below P (T4.setTop (mkF m 36 #[.val (.ref o0), .val (.int p1), .val (.int (0 : Int32))] [(.int (own_fixl p1))]))
  refine own_retI X4 hx hlk hP hrt (hb hby own_dix2_36) (by decide) (by decide) ⟨congrArg (fun z => some (Value.int z)) ?_, N4, eq4⟩
  exact (show own_fix2 p1 s_String_COMPACT_STRINGS = (own_fixl p1) from rfl).symm
theorem own_dix1_0 : decode jdk_42_method_79_code 0 = .ok (.aload_n 0, 1) := by decide +kernel
theorem own_dix1_1 : decode jdk_42_method_79_code 1 = .ok (.iload_n 1, 1) := by decide +kernel
theorem own_dix1_2 : decode jdk_42_method_79_code 2 = .ok (.iconst 0, 1) := by decide +kernel
theorem own_dix1_3 : decode jdk_42_method_79_code 3 = .ok (.invokevirtual 633, 3) := by decide +kernel
theorem own_dix1_6 : decode jdk_42_method_79_code 6 = .ok (.ireturn, 1) := by decide +kernel
theorem own_efix1 (m : MethodId) (o0 : Addr) (p1 : Int32) : entryFrame m #[(.ref o0), (.int p1)] 2 = mkF m 0 #[.val (.ref o0), .val (.int p1)] [] := by first | (simp [entryFrame, mkF, argsToLocals, Value.category]; done) | rfl
def own_fix1 (p1 : Int32) (s_String_COMPACT_STRINGS : Int32) : Int32 := (own_fix2 p1 s_String_COMPACT_STRINGS)
set_option maxRecDepth 65536 in
set_option maxHeartbeats 40000000 in
theorem own_mix1 (l : Launch) (Z : State) (a0 : Array Value) (hw : ∀ d ∈ tables_1, d.before a0 Z = true) (ws : List Jvm.Cond) (o0 : Addr) (p1 : Int32) (w_o0_value : Addr) (s_String_COMPACT_STRINGS : Int32) (k_w_o0_value : ClassId) (h0 : Heap) (n0 : Nat) (Z0 : n0 ≤ h0.size) (E_o0 : Exa Z h0 o0 "java/lang/String") (F_o0_value : Fld Z h0 o0 "java/lang/String" "value" "[B" (.ref w_o0_value)) (F_o0_coder : Fld Z h0 o0 "java/lang/String" "coder" "B" (.int (0 : Int32))) (S_String_COMPACT_STRINGS : Sta Z h0 "java/lang/String" "COMPACT_STRINGS" "Z" (.int s_String_COMPACT_STRINGS)) (V_w_o0_value : Arv Z h0 w_o0_value k_w_o0_value .byte (15 : Int32) [(.int (33 : Int32)), (.int (35 : Int32)), (.int (36 : Int32)), (.int (37 : Int32)), (.int (38 : Int32)), (.int (39 : Int32)), (.int (42 : Int32)), (.int (43 : Int32)), (.int (45 : Int32)), (.int (46 : Int32)), (.int (94 : Int32)), (.int (95 : Int32)), (.int (96 : Int32)), (.int (124 : Int32)), (.int (126 : Int32))] (.int (0 : Int32))) (hnz : ¬ (s_String_COMPACT_STRINGS = (0 : Int32))) :
    own_Met l Z (⟨"java/lang/String", "indexOf", "(I)I"⟩ : MethodName) jdk_42_method_79_code 2 (some .int) ws ({ frames := 3, cells := 0, slots := 0, locals := 46 } : Room) #[(.ref o0), (.int p1)] h0 (fun (v : Option Value) (h : Heap) (L : List Loc) => v = some (.int (own_fix1 p1 s_String_COMPACT_STRINGS)) ∧ Fr n0 L ∧ h = h0) := by
  refine own_enter (plainFor_of_name own_pn_java_lang_String) ?_
  intro p e s m below meth c s₁ P hx hby hml hrt hlk hown hnm hZ X0 e0 hP
  have N0 := Fr.nil n0
  have K0 := Keep.refl h0 []
  have hml' : c.maxLocals = 2 := hml
  refine own_cast (own_efix1 m o0 p1) ?_
  show own_End p e below P (s₁.setTop (mkF m 0 #[.val (.ref o0), .val (.int p1)] []))
  refine own_st (fun _ => XS.aloadN X0.here hx rfl (hb hby own_dix1_0) rfl rfl) ?_
  show own_End p e below P (s₁.setTop (mkF m 1 #[.val (.ref o0), .val (.int p1)] [(.ref o0)]))
  refine own_st (fun _ => XS.iloadN X0.here hx rfl (hb hby own_dix1_1) rfl) ?_
  show own_End p e below P (s₁.setTop (mkF m 2 #[.val (.ref o0), .val (.int p1)] [(.int p1), (.ref o0)]))
  refine own_st (fun _ => XS.iconst X0.here hx rfl (hb hby own_dix1_2)) ?_
  show own_End p e below P (s₁.setTop (mkF m 3 #[.val (.ref o0), .val (.int p1)] [(.int (0 : Int32)), (.int p1), (.ref o0)]))
  refine own_callV X0 hx hZ (y := (⟨"java/lang/String", "indexOf", "(II)I"⟩ : MethodName)) (z := (⟨"java/lang/String", "indexOf", "(II)I"⟩ : MethodName)) hown (hw _ (List.mem_of_getElem? (i := 17) rfl)) (hw _ (List.mem_of_getElem? (i := 18) rfl)) (notFace_of_selects (args := #[]) (mvT hZ (hw _ (List.mem_of_getElem? (i := 20) rfl)))) (hw _ (List.mem_of_getElem? (i := 20) rfl)) (hw _ (List.mem_of_getElem? (i := 19) rfl)) (hw _ (List.mem_of_getElem? (i := 5) rfl)) (hw _ (List.mem_of_getElem? (i := 21) rfl)) (by decide) E_o0 (own_mix2 l Z a0 hw [] o0 p1 w_o0_value s_String_COMPACT_STRINGS k_w_o0_value h0 n0 (Nat.le_trans Z0 K0.1) E_o0 F_o0_value F_o0_coder S_String_COMPACT_STRINGS V_w_o0_value hnz) 0 (by decide) (by decide) e0 (by decide) (by decide) (g := (mkF m 3 #[.val (.ref o0), .val (.int p1)] [(.int (0 : Int32)), (.int p1), (.ref o0)])) rfl (by rw [hml']; rfl) (argsL := [(.int p1), (.int (0 : Int32))]) (rest := []) rfl (lenOf own_pd_II_I_300 rfl) rfl (by show 2 * 0 + _ ≤ _; exact Nat.le_of_eq rfl) (hb hby own_dix1_3) (fun r1 T1 L1 X1 hQ1 => ?_)
  obtain ⟨rfl, Nq1, eq1⟩ := hQ1
  have N1 := Fr.app N0 Nq1
  show own_End p e below P (T1.setTop (mkF m 6 #[.val (.ref o0), .val (.int p1)] [(.int (own_fix2 p1 s_String_COMPACT_STRINGS))]))
  refine own_retI X1 hx hlk hP hrt (hb hby own_dix1_6) (by decide) (by decide) ⟨congrArg (fun z => some (Value.int z)) ?_, N1, eq1⟩
  exact (show own_fix1 p1 s_String_COMPACT_STRINGS = (own_fix2 p1 s_String_COMPACT_STRINGS) from rfl).symm
theorem own_dtok_0 : decode prog_26_method_2_code 0 = .ok (.iload_n 0, 1) := by decide +kernel
theorem own_dtok_1 : decode prog_26_method_2_code 1 = .ok (.bipush 97, 2) := by decide +kernel
theorem own_dtok_3 : decode prog_26_method_2_code 3 = .ok (.if_icmp .lt 9, 3) := by decide +kernel
theorem own_dtok_12 : decode prog_26_method_2_code 12 = .ok (.iload_n 0, 1) := by decide +kernel
theorem own_dtok_13 : decode prog_26_method_2_code 13 = .ok (.bipush 65, 2) := by decide +kernel
theorem own_dtok_15 : decode prog_26_method_2_code 15 = .ok (.if_icmp .lt 9, 3) := by decide +kernel
theorem own_dtok_24 : decode prog_26_method_2_code 24 = .ok (.iload_n 0, 1) := by decide +kernel
theorem own_dtok_25 : decode prog_26_method_2_code 25 = .ok (.bipush 48, 2) := by decide +kernel
theorem own_dtok_27 : decode prog_26_method_2_code 27 = .ok (.if_icmp .lt 9, 3) := by decide +kernel
theorem own_dtok_36 : decode prog_26_method_2_code 36 = .ok (.ldc 9, 2) := by decide +kernel
theorem own_dtok_38 : decode prog_26_method_2_code 38 = .ok (.iload_n 0, 1) := by decide +kernel
theorem own_dtok_39 : decode prog_26_method_2_code 39 = .ok (.invokevirtual 11, 3) := by decide +kernel
theorem own_pd_I_I_227 : parseMethodDescriptor "(I)I" = some ⟨[.int], some .int⟩ := by decide +kernel
theorem own_dtok_42 : decode prog_26_method_2_code 42 = .ok (.ifCond .lt 7, 3) := by decide +kernel
theorem own_dtok_49 : decode prog_26_method_2_code 49 = .ok (.iconst 0, 1) := by decide +kernel
theorem own_dtok_50 : decode prog_26_method_2_code 50 = .ok (.ireturn, 1) := by decide +kernel
theorem own_dtok_45 : decode prog_26_method_2_code 45 = .ok (.iconst 1, 1) := by decide +kernel
theorem own_dtok_46 : decode prog_26_method_2_code 46 = .ok (.goto 4, 3) := by decide +kernel
theorem own_dtok_30 : decode prog_26_method_2_code 30 = .ok (.iload_n 0, 1) := by decide +kernel
theorem own_dtok_31 : decode prog_26_method_2_code 31 = .ok (.bipush 57, 2) := by decide +kernel
theorem own_dtok_33 : decode prog_26_method_2_code 33 = .ok (.if_icmp .le 12, 3) := by decide +kernel
theorem own_dtok_18 : decode prog_26_method_2_code 18 = .ok (.iload_n 0, 1) := by decide +kernel
theorem own_dtok_19 : decode prog_26_method_2_code 19 = .ok (.bipush 90, 2) := by decide +kernel
theorem own_dtok_21 : decode prog_26_method_2_code 21 = .ok (.if_icmp .le 24, 3) := by decide +kernel
theorem own_dtok_6 : decode prog_26_method_2_code 6 = .ok (.iload_n 0, 1) := by decide +kernel
theorem own_dtok_7 : decode prog_26_method_2_code 7 = .ok (.bipush 122, 2) := by decide +kernel
theorem own_dtok_9 : decode prog_26_method_2_code 9 = .ok (.if_icmp .le 36, 3) := by decide +kernel
theorem own_eftok (m : MethodId) (p0 : Int32) : entryFrame m #[(.int p0)] 1 = mkF m 0 #[.val (.int p0)] [] := by first | (simp [entryFrame, mkF, argsToLocals, Value.category]; done) | rfl
def own_ftok (p0 : Int32) (s_String_COMPACT_STRINGS : Int32) : Int32 := (if p0 < (97 : Int32) then (if p0 < (65 : Int32) then (if p0 < (48 : Int32) then (if (own_fix1 p0 s_String_COMPACT_STRINGS) < (0 : Int32) then (0 : Int32) else (1 : Int32)) else (if (57 : Int32) < p0 then (if (own_fix1 p0 s_String_COMPACT_STRINGS) < (0 : Int32) then (0 : Int32) else (1 : Int32)) else (1 : Int32))) else (if (90 : Int32) < p0 then (if p0 < (48 : Int32) then (if (own_fix1 p0 s_String_COMPACT_STRINGS) < (0 : Int32) then (0 : Int32) else (1 : Int32)) else (if (57 : Int32) < p0 then (if (own_fix1 p0 s_String_COMPACT_STRINGS) < (0 : Int32) then (0 : Int32) else (1 : Int32)) else (1 : Int32))) else (1 : Int32))) else (if (122 : Int32) < p0 then (if p0 < (65 : Int32) then (if p0 < (48 : Int32) then (if (own_fix1 p0 s_String_COMPACT_STRINGS) < (0 : Int32) then (0 : Int32) else (1 : Int32)) else (if (57 : Int32) < p0 then (if (own_fix1 p0 s_String_COMPACT_STRINGS) < (0 : Int32) then (0 : Int32) else (1 : Int32)) else (1 : Int32))) else (if (90 : Int32) < p0 then (if p0 < (48 : Int32) then (if (own_fix1 p0 s_String_COMPACT_STRINGS) < (0 : Int32) then (0 : Int32) else (1 : Int32)) else (if (57 : Int32) < p0 then (if (own_fix1 p0 s_String_COMPACT_STRINGS) < (0 : Int32) then (0 : Int32) else (1 : Int32)) else (1 : Int32))) else (1 : Int32))) else (1 : Int32)))
theorem own_pn_com_example_holdfast_holdfast_internal_HttpSyntax : plainName "com/example/holdfast/holdfast/internal/HttpSyntax" = true := by first | (simp [plainName, overriddenIn]; done) | decide +kernel
set_option maxRecDepth 65536 in
set_option maxHeartbeats 40000000 in
theorem own_mtok (l : Launch) (Z : State) (a0 : Array Value) (hw : ∀ d ∈ tables_1, d.before a0 Z = true) (ws : List Jvm.Cond) (p0 : Int32) (s_String_COMPACT_STRINGS : Int32) (h0 : Heap) (n0 : Nat) (Z0 : n0 ≤ h0.size) (S_String_COMPACT_STRINGS : Sta Z h0 "java/lang/String" "COMPACT_STRINGS" "Z" (.int s_String_COMPACT_STRINGS)) (hnz : ¬ (s_String_COMPACT_STRINGS = (0 : Int32))) :
    own_MetH l Z consts_1 (⟨"com/example/holdfast/holdfast/internal/HttpSyntax", "isTokenChar", "(C)Z"⟩ : MethodName) prog_26_method_2_code 1 (some .boolean) ws ({ frames := 4, cells := 2, slots := 64, locals := 59 } : Room) #[(.int p0)] h0 (fun (v : Option Value) (h : Heap) (L : List Loc) => v = some (.int (own_ftok p0 s_String_COMPACT_STRINGS)) ∧ Fr n0 L ∧ Keep h0 h []) := by
  refine own_enterH (plainFor_of_name own_pn_com_example_holdfast_holdfast_internal_HttpSyntax) ?_
  intro p e s m below meth c s₁ P vm0 k0 hx hby hml hrt hlk hown hnm hZ X0 e0 hS hk hC hP
  have N0 := Fr.nil n0
  have K0 := Keep.refl h0 []
  have hml' : c.maxLocals = 1 := hml
  have hEL := own_EW hw
  refine own_cast (own_eftok m p0) ?_
  show own_End p e below P (s₁.setTop (mkF m 0 #[.val (.int p0)] []))
  refine own_st (fun _ => XS.iloadN X0.here hx rfl (hb hby own_dtok_0) rfl) ?_
  show own_End p e below P (s₁.setTop (mkF m 1 #[.val (.int p0)] [(.int p0)]))
  refine own_st (fun _ => XS.bipush X0.here hx rfl (hb hby own_dtok_1)) ?_
  show own_End p e below P (s₁.setTop (mkF m 3 #[.val (.int p0)] [(.int (97 : Int32)), (.int p0)]))
  by_cases hc1 : p0 < (97 : Int32)
  · refine own_st (fun _ => XS.icmpYes X0.here hx rfl (pc0 := 3) (pc' := 12) rfl (hb hby own_dtok_3) rfl (tlt hc1).1 (by decide) (by decide)) ?_
    show own_End p e below P (s₁.setTop (mkF m 12 #[.val (.int p0)] []))
    refine own_st (fun _ => XS.iloadN X0.here hx rfl (hb hby own_dtok_12) rfl) ?_
    show own_End p e below P (s₁.setTop (mkF m 13 #[.val (.int p0)] [(.int p0)]))
    refine own_st (fun _ => XS.bipush X0.here hx rfl (hb hby own_dtok_13)) ?_
    show own_End p e below P (s₁.setTop (mkF m 15 #[.val (.int p0)] [(.int (65 : Int32)), (.int p0)]))
    by_cases hc2 : p0 < (65 : Int32)
    · refine own_st (fun _ => XS.icmpYes X0.here hx rfl (pc0 := 15) (pc' := 24) rfl (hb hby own_dtok_15) rfl (tlt hc2).1 (by decide) (by decide)) ?_
      show own_End p e below P (s₁.setTop (mkF m 24 #[.val (.int p0)] []))
      refine own_st (fun _ => XS.iloadN X0.here hx rfl (hb hby own_dtok_24) rfl) ?_
      show own_End p e below P (s₁.setTop (mkF m 25 #[.val (.int p0)] [(.int p0)]))
      refine own_st (fun _ => XS.bipush X0.here hx rfl (hb hby own_dtok_25)) ?_
      show own_End p e below P (s₁.setTop (mkF m 27 #[.val (.int p0)] [(.int (48 : Int32)), (.int p0)]))
      by_cases hc3 : p0 < (48 : Int32)
      · refine own_st (fun _ => XS.icmpYes X0.here hx rfl (pc0 := 27) (pc' := 36) rfl (hb hby own_dtok_27) rfl (tlt hc3).1 (by decide) (by decide)) ?_
        show own_End p e below P (s₁.setTop (mkF m 36 #[.val (.int p0)] []))
        obtain ⟨a4, T4, h4, k4, b4, c4, X4, e4, E4, hS, hk4, hZ, hown, EA4, FC4, FV4, VV4, -, -, hC4, Li4, -, st4⟩ := ldcCH X0 hx hZ hown (hw _ (List.mem_of_getElem? (i := 4) rfl)) (own_wS hw) e0 hS hk hEL (List.mem_of_getElem? (i := 0) rfl) hC.1 (vs := [(.int (33 : Int32)), (.int (35 : Int32)), (.int (36 : Int32)), (.int (37 : Int32)), (.int (38 : Int32)), (.int (39 : Int32)), (.int (42 : Int32)), (.int (43 : Int32)), (.int (45 : Int32)), (.int (46 : Int32)), (.int (94 : Int32)), (.int (95 : Int32)), (.int (96 : Int32)), (.int (124 : Int32)), (.int (126 : Int32))]) (z := (15 : Int32)) ⟨by decide, by rfl⟩ (by decide) (by decide) (g := (mkF m 36 #[.val (.int p0)] [])) rfl (hb hby own_dtok_36) (n := 60) (by decide) (by decide) (by decide) (by decide)
        have hC := hC.trans hC4
        have K4 := Keep.ext K0 E4
        refine own_st (fun _ => st4 _) ?_
        show own_End p e below P (T4.setTop (mkF m 38 #[.val (.int p0)] [(.ref a4)]))
        refine own_st (fun _ => XS.iloadN X4.here hx rfl (hb hby own_dtok_38) rfl) ?_
        show own_End p e below P (T4.setTop (mkF m 39 #[.val (.int p0)] [(.int p0), (.ref a4)]))
        have G6 := (S_String_COMPACT_STRINGS.ext E4)
        refine own_callV X4 hx hZ (y := (⟨"java/lang/String", "indexOf", "(I)I"⟩ : MethodName)) (z := (⟨"java/lang/String", "indexOf", "(I)I"⟩ : MethodName)) hown (hw _ (List.mem_of_getElem? (i := 12) rfl)) (hw _ (List.mem_of_getElem? (i := 13) rfl)) (notFace_of_selects (args := #[]) (mvT hZ (hw _ (List.mem_of_getElem? (i := 15) rfl)))) (hw _ (List.mem_of_getElem? (i := 15) rfl)) (hw _ (List.mem_of_getElem? (i := 14) rfl)) (hw _ (List.mem_of_getElem? (i := 5) rfl)) (hw _ (List.mem_of_getElem? (i := 16) rfl)) (by decide) EA4 (own_mix1 l Z a0 hw [] a4 p0 b4 s_String_COMPACT_STRINGS c4 h4 n0 (Nat.le_trans Z0 K4.1) EA4 FV4 FC4 G6 VV4 hnz) 0 (by decide) (by decide) e4 (by decide) (by decide) (g := (mkF m 39 #[.val (.int p0)] [(.int p0), (.ref a4)])) rfl (by rw [hml']; rfl) (argsL := [(.int p0)]) (rest := []) rfl (lenOf own_pd_I_I_227 rfl) rfl (by show 2 * 0 + _ ≤ _; exact Nat.le_of_eq rfl) (hb hby own_dtok_39) (fun r5 T5 L5 X5 hQ5 => ?_)
        obtain ⟨rfl, Nq5, eq5⟩ := hQ5
        have N5 := Fr.app N0 Nq5
        show own_End p e below P (T5.setTop (mkF m 42 #[.val (.int p0)] [(.int (own_fix1 p0 s_String_COMPACT_STRINGS))]))
        by_cases hc7 : (own_fix1 p0 s_String_COMPACT_STRINGS) < (0 : Int32)
        · refine own_st (fun _ => XS.ifYes X5.here hx rfl (pc0 := 42) (pc' := 49) rfl (hb hby own_dtok_42) rfl ((if0 _ _).trans (tlt hc7).1) (by decide) (by decide)) ?_
          show own_End p e below P (T5.setTop (mkF m 49 #[.val (.int p0)] []))
          refine own_st (fun _ => XS.iconst X5.here hx rfl (hb hby own_dtok_49)) ?_
          show own_End p e below P (T5.setTop (mkF m 50 #[.val (.int p0)] [(.int (0 : Int32))]))
          refine own_retNH X5 hS hk4 eq5 hZ hEL hC hx hlk hP (t := .boolean) (by simp) hrt (hb hby own_dtok_50) (by decide) (by decide) ⟨congrArg (fun z => some (Value.int z)) ?_, N5, (by rw [eq5]; exact K4)⟩
          exact (show own_ftok p0 s_String_COMPACT_STRINGS = (0 : Int32) from (if_pos hc1).trans ((if_pos hc2).trans ((if_pos hc3).trans ((if_pos hc7).trans (rfl))))).symm
        · refine own_st (fun _ => XS.ifNo X5.here hx rfl (hb hby own_dtok_42) rfl ((if0 _ _).trans (flt hc7).1)) ?_
          show own_End p e below P (T5.setTop (mkF m 45 #[.val (.int p0)] []))
          refine own_st (fun _ => XS.iconst X5.here hx rfl (hb hby own_dtok_45)) ?_
          show own_End p e below P (T5.setTop (mkF m 46 #[.val (.int p0)] [(.int (1 : Int32))]))
          refine own_st (fun _ => XS.goto X5.here hx rfl (pc0 := 46) (pc' := 50) rfl (hb hby own_dtok_46) (by decide) (by decide)) ?_
          show own_End p e below P (T5.setTop (mkF m 50 #[.val (.int p0)] [(.int (1 : Int32))]))
          refine own_retNH X5 hS hk4 eq5 hZ hEL hC hx hlk hP (t := .boolean) (by simp) hrt (hb hby own_dtok_50) (by decide) (by decide) ⟨congrArg (fun z => some (Value.int z)) ?_, N5, (by rw [eq5]; exact K4)⟩
          exact (show own_ftok p0 s_String_COMPACT_STRINGS = (1 : Int32) from (if_pos hc1).trans ((if_pos hc2).trans ((if_pos hc3).trans ((if_neg hc7).trans (rfl))))).symm
      · refine own_st (fun _ => XS.icmpNo X0.here hx rfl (hb hby own_dtok_27) rfl (flt hc3).1) ?_
        show own_End p e below P (s₁.setTop (mkF m 30 #[.val (.int p0)] []))
        refine own_st (fun _ => XS.iloadN X0.here hx rfl (hb hby own_dtok_30) rfl) ?_
        show own_End p e below P (s₁.setTop (mkF m 31 #[.val (.int p0)] [(.int p0)]))
        refine own_st (fun _ => XS.bipush X0.here hx rfl (hb hby own_dtok_31)) ?_
        show own_End p e below P (s₁.setTop (mkF m 33 #[.val (.int p0)] [(.int (57 : Int32)), (.int p0)]))
        by_cases hc8 : (57 : Int32) < p0
        · refine own_st (fun _ => XS.icmpNo X0.here hx rfl (hb hby own_dtok_33) rfl (tlt hc8).2.2.2) ?_
          show own_End p e below P (s₁.setTop (mkF m 36 #[.val (.int p0)] []))
          obtain ⟨a9, T9, h9, k9, b9, c9, X9, e9, E9, hS, hk9, hZ, hown, EA9, FC9, FV9, VV9, -, -, hC9, Li9, -, st9⟩ := ldcCH X0 hx hZ hown (hw _ (List.mem_of_getElem? (i := 4) rfl)) (own_wS hw) e0 hS hk hEL (List.mem_of_getElem? (i := 0) rfl) hC.1 (vs := [(.int (33 : Int32)), (.int (35 : Int32)), (.int (36 : Int32)), (.int (37 : Int32)), (.int (38 : Int32)), (.int (39 : Int32)), (.int (42 : Int32)), (.int (43 : Int32)), (.int (45 : Int32)), (.int (46 : Int32)), (.int (94 : Int32)), (.int (95 : Int32)), (.int (96 : Int32)), (.int (124 : Int32)), (.int (126 : Int32))]) (z := (15 : Int32)) ⟨by decide, by rfl⟩ (by decide) (by decide) (g := (mkF m 36 #[.val (.int p0)] [])) rfl (hb hby own_dtok_36) (n := 60) (by decide) (by decide) (by decide) (by decide)
          have hC := hC.trans hC9
          have K9 := Keep.ext K0 E9
          refine own_st (fun _ => st9 _) ?_
          show own_End p e below P (T9.setTop (mkF m 38 #[.val (.int p0)] [(.ref a9)]))
          refine own_st (fun _ => XS.iloadN X9.here hx rfl (hb hby own_dtok_38) rfl) ?_
          show own_End p e below P (T9.setTop (mkF m 39 #[.val (.int p0)] [(.int p0), (.ref a9)]))
          have G11 := (S_String_COMPACT_STRINGS.ext E9)
          refine own_callV X9 hx hZ (y := (⟨"java/lang/String", "indexOf", "(I)I"⟩ : MethodName)) (z := (⟨"java/lang/String", "indexOf", "(I)I"⟩ : MethodName)) hown (hw _ (List.mem_of_getElem? (i := 12) rfl)) (hw _ (List.mem_of_getElem? (i := 13) rfl)) (notFace_of_selects (args := #[]) (mvT hZ (hw _ (List.mem_of_getElem? (i := 15) rfl)))) (hw _ (List.mem_of_getElem? (i := 15) rfl)) (hw _ (List.mem_of_getElem? (i := 14) rfl)) (hw _ (List.mem_of_getElem? (i := 5) rfl)) (hw _ (List.mem_of_getElem? (i := 16) rfl)) (by decide) EA9 (own_mix1 l Z a0 hw [] a9 p0 b9 s_String_COMPACT_STRINGS c9 h9 n0 (Nat.le_trans Z0 K9.1) EA9 FV9 FC9 G11 VV9 hnz) 0 (by decide) (by decide) e9 (by decide) (by decide) (g := (mkF m 39 #[.val (.int p0)] [(.int p0), (.ref a9)])) rfl (by rw [hml']; rfl) (argsL := [(.int p0)]) (rest := []) rfl (lenOf own_pd_I_I_227 rfl) rfl (by show 2 * 0 + _ ≤ _; exact Nat.le_of_eq rfl) (hb hby own_dtok_39) (fun r10 T10 L10 X10 hQ10 => ?_)
          obtain ⟨rfl, Nq10, eq10⟩ := hQ10
          have N10 := Fr.app N0 Nq10
          show own_End p e below P (T10.setTop (mkF m 42 #[.val (.int p0)] [(.int (own_fix1 p0 s_String_COMPACT_STRINGS))]))
          by_cases hc12 : (own_fix1 p0 s_String_COMPACT_STRINGS) < (0 : Int32)
          · refine own_st (fun _ => XS.ifYes X10.here hx rfl (pc0 := 42) (pc' := 49) rfl (hb hby own_dtok_42) rfl ((if0 _ _).trans (tlt hc12).1) (by decide) (by decide)) ?_
            show own_End p e below P (T10.setTop (mkF m 49 #[.val (.int p0)] []))
            refine own_st (fun _ => XS.iconst X10.here hx rfl (hb hby own_dtok_49)) ?_
            show own_End p e below P (T10.setTop (mkF m 50 #[.val (.int p0)] [(.int (0 : Int32))]))
            refine own_retNH X10 hS hk9 eq10 hZ hEL hC hx hlk hP (t := .boolean) (by simp) hrt (hb hby own_dtok_50) (by decide) (by decide) ⟨congrArg (fun z => some (Value.int z)) ?_, N10, (by rw [eq10]; exact K9)⟩
            exact (show own_ftok p0 s_String_COMPACT_STRINGS = (0 : Int32) from (if_pos hc1).trans ((if_pos hc2).trans ((if_neg hc3).trans ((if_pos hc8).trans ((if_pos hc12).trans (rfl)))))).symm
          · refine own_st (fun _ => XS.ifNo X10.here hx rfl (hb hby own_dtok_42) rfl ((if0 _ _).trans (flt hc12).1)) ?_
            show own_End p e below P (T10.setTop (mkF m 45 #[.val (.int p0)] []))
            refine own_st (fun _ => XS.iconst X10.here hx rfl (hb hby own_dtok_45)) ?_
            show own_End p e below P (T10.setTop (mkF m 46 #[.val (.int p0)] [(.int (1 : Int32))]))
            refine own_st (fun _ => XS.goto X10.here hx rfl (pc0 := 46) (pc' := 50) rfl (hb hby own_dtok_46) (by decide) (by decide)) ?_
            show own_End p e below P (T10.setTop (mkF m 50 #[.val (.int p0)] [(.int (1 : Int32))]))
            refine own_retNH X10 hS hk9 eq10 hZ hEL hC hx hlk hP (t := .boolean) (by simp) hrt (hb hby own_dtok_50) (by decide) (by decide) ⟨congrArg (fun z => some (Value.int z)) ?_, N10, (by rw [eq10]; exact K9)⟩
            exact (show own_ftok p0 s_String_COMPACT_STRINGS = (1 : Int32) from (if_pos hc1).trans ((if_pos hc2).trans ((if_neg hc3).trans ((if_pos hc8).trans ((if_neg hc12).trans (rfl)))))).symm
        · refine own_st (fun _ => XS.icmpYes X0.here hx rfl (pc0 := 33) (pc' := 45) rfl (hb hby own_dtok_33) rfl (flt hc8).2.2.2 (by decide) (by decide)) ?_
          show own_End p e below P (s₁.setTop (mkF m 45 #[.val (.int p0)] []))
          refine own_st (fun _ => XS.iconst X0.here hx rfl (hb hby own_dtok_45)) ?_
          show own_End p e below P (s₁.setTop (mkF m 46 #[.val (.int p0)] [(.int (1 : Int32))]))
          refine own_st (fun _ => XS.goto X0.here hx rfl (pc0 := 46) (pc' := 50) rfl (hb hby own_dtok_46) (by decide) (by decide)) ?_
          show own_End p e below P (s₁.setTop (mkF m 50 #[.val (.int p0)] [(.int (1 : Int32))]))
          refine own_retNH X0 hS hk e0 hZ hEL hC hx hlk hP (t := .boolean) (by simp) hrt (hb hby own_dtok_50) (by decide) (by decide) ⟨congrArg (fun z => some (Value.int z)) ?_, N0, (by rw [e0]; exact K0)⟩
          exact (show own_ftok p0 s_String_COMPACT_STRINGS = (1 : Int32) from (if_pos hc1).trans ((if_pos hc2).trans ((if_neg hc3).trans ((if_neg hc8).trans (rfl))))).symm
    · refine own_st (fun _ => XS.icmpNo X0.here hx rfl (hb hby own_dtok_15) rfl (flt hc2).1) ?_
      show own_End p e below P (s₁.setTop (mkF m 18 #[.val (.int p0)] []))
      refine own_st (fun _ => XS.iloadN X0.here hx rfl (hb hby own_dtok_18) rfl) ?_
      show own_End p e below P (s₁.setTop (mkF m 19 #[.val (.int p0)] [(.int p0)]))
      refine own_st (fun _ => XS.bipush X0.here hx rfl (hb hby own_dtok_19)) ?_
      show own_End p e below P (s₁.setTop (mkF m 21 #[.val (.int p0)] [(.int (90 : Int32)), (.int p0)]))
      by_cases hc13 : (90 : Int32) < p0
      · refine own_st (fun _ => XS.icmpNo X0.here hx rfl (hb hby own_dtok_21) rfl (tlt hc13).2.2.2) ?_
        show own_End p e below P (s₁.setTop (mkF m 24 #[.val (.int p0)] []))
        refine own_st (fun _ => XS.iloadN X0.here hx rfl (hb hby own_dtok_24) rfl) ?_
        show own_End p e below P (s₁.setTop (mkF m 25 #[.val (.int p0)] [(.int p0)]))
        refine own_st (fun _ => XS.bipush X0.here hx rfl (hb hby own_dtok_25)) ?_
        show own_End p e below P (s₁.setTop (mkF m 27 #[.val (.int p0)] [(.int (48 : Int32)), (.int p0)]))
        by_cases hc14 : p0 < (48 : Int32)
        · refine own_st (fun _ => XS.icmpYes X0.here hx rfl (pc0 := 27) (pc' := 36) rfl (hb hby own_dtok_27) rfl (tlt hc14).1 (by decide) (by decide)) ?_
          show own_End p e below P (s₁.setTop (mkF m 36 #[.val (.int p0)] []))
          obtain ⟨a15, T15, h15, k15, b15, c15, X15, e15, E15, hS, hk15, hZ, hown, EA15, FC15, FV15, VV15, -, -, hC15, Li15, -, st15⟩ := ldcCH X0 hx hZ hown (hw _ (List.mem_of_getElem? (i := 4) rfl)) (own_wS hw) e0 hS hk hEL (List.mem_of_getElem? (i := 0) rfl) hC.1 (vs := [(.int (33 : Int32)), (.int (35 : Int32)), (.int (36 : Int32)), (.int (37 : Int32)), (.int (38 : Int32)), (.int (39 : Int32)), (.int (42 : Int32)), (.int (43 : Int32)), (.int (45 : Int32)), (.int (46 : Int32)), (.int (94 : Int32)), (.int (95 : Int32)), (.int (96 : Int32)), (.int (124 : Int32)), (.int (126 : Int32))]) (z := (15 : Int32)) ⟨by decide, by rfl⟩ (by decide) (by decide) (g := (mkF m 36 #[.val (.int p0)] [])) rfl (hb hby own_dtok_36) (n := 60) (by decide) (by decide) (by decide) (by decide)
          have hC := hC.trans hC15
          have K15 := Keep.ext K0 E15
          refine own_st (fun _ => st15 _) ?_
          show own_End p e below P (T15.setTop (mkF m 38 #[.val (.int p0)] [(.ref a15)]))
          refine own_st (fun _ => XS.iloadN X15.here hx rfl (hb hby own_dtok_38) rfl) ?_
          show own_End p e below P (T15.setTop (mkF m 39 #[.val (.int p0)] [(.int p0), (.ref a15)]))
          have G17 := (S_String_COMPACT_STRINGS.ext E15)
          refine own_callV X15 hx hZ (y := (⟨"java/lang/String", "indexOf", "(I)I"⟩ : MethodName)) (z := (⟨"java/lang/String", "indexOf", "(I)I"⟩ : MethodName)) hown (hw _ (List.mem_of_getElem? (i := 12) rfl)) (hw _ (List.mem_of_getElem? (i := 13) rfl)) (notFace_of_selects (args := #[]) (mvT hZ (hw _ (List.mem_of_getElem? (i := 15) rfl)))) (hw _ (List.mem_of_getElem? (i := 15) rfl)) (hw _ (List.mem_of_getElem? (i := 14) rfl)) (hw _ (List.mem_of_getElem? (i := 5) rfl)) (hw _ (List.mem_of_getElem? (i := 16) rfl)) (by decide) EA15 (own_mix1 l Z a0 hw [] a15 p0 b15 s_String_COMPACT_STRINGS c15 h15 n0 (Nat.le_trans Z0 K15.1) EA15 FV15 FC15 G17 VV15 hnz) 0 (by decide) (by decide) e15 (by decide) (by decide) (g := (mkF m 39 #[.val (.int p0)] [(.int p0), (.ref a15)])) rfl (by rw [hml']; rfl) (argsL := [(.int p0)]) (rest := []) rfl (lenOf own_pd_I_I_227 rfl) rfl (by show 2 * 0 + _ ≤ _; exact Nat.le_of_eq rfl) (hb hby own_dtok_39) (fun r16 T16 L16 X16 hQ16 => ?_)
          obtain ⟨rfl, Nq16, eq16⟩ := hQ16
          have N16 := Fr.app N0 Nq16
          show own_End p e below P (T16.setTop (mkF m 42 #[.val (.int p0)] [(.int (own_fix1 p0 s_String_COMPACT_STRINGS))]))
          by_cases hc18 : (own_fix1 p0 s_String_COMPACT_STRINGS) < (0 : Int32)
          · refine own_st (fun _ => XS.ifYes X16.here hx rfl (pc0 := 42) (pc' := 49) rfl (hb hby own_dtok_42) rfl ((if0 _ _).trans (tlt hc18).1) (by decide) (by decide)) ?_
            show own_End p e below P (T16.setTop (mkF m 49 #[.val (.int p0)] []))
            refine own_st (fun _ => XS.iconst X16.here hx rfl (hb hby own_dtok_49)) ?_
            show own_End p e below P (T16.setTop (mkF m 50 #[.val (.int p0)] [(.int (0 : Int32))]))
            refine own_retNH X16 hS hk15 eq16 hZ hEL hC hx hlk hP (t := .boolean) (by simp) hrt (hb hby own_dtok_50) (by decide) (by decide) ⟨congrArg (fun z => some (Value.int z)) ?_, N16, (by rw [eq16]; exact K15)⟩
            exact (show own_ftok p0 s_String_COMPACT_STRINGS = (0 : Int32) from (if_pos hc1).trans ((if_neg hc2).trans ((if_pos hc13).trans ((if_pos hc14).trans ((if_pos hc18).trans (rfl)))))).symm
          · refine own_st (fun _ => XS.ifNo X16.here hx rfl (hb hby own_dtok_42) rfl ((if0 _ _).trans (flt hc18).1)) ?_
            show own_End p e below P (T16.setTop (mkF m 45 #[.val (.int p0)] []))
            refine own_st (fun _ => XS.iconst X16.here hx rfl (hb hby own_dtok_45)) ?_
            show own_End p e below P (T16.setTop (mkF m 46 #[.val (.int p0)] [(.int (1 : Int32))]))
            refine own_st (fun _ => XS.goto X16.here hx rfl (pc0 := 46) (pc' := 50) rfl (hb hby own_dtok_46) (by decide) (by decide)) ?_
            show own_End p e below P (T16.setTop (mkF m 50 #[.val (.int p0)] [(.int (1 : Int32))]))
            refine own_retNH X16 hS hk15 eq16 hZ hEL hC hx hlk hP (t := .boolean) (by simp) hrt (hb hby own_dtok_50) (by decide) (by decide) ⟨congrArg (fun z => some (Value.int z)) ?_, N16, (by rw [eq16]; exact K15)⟩
            exact (show own_ftok p0 s_String_COMPACT_STRINGS = (1 : Int32) from (if_pos hc1).trans ((if_neg hc2).trans ((if_pos hc13).trans ((if_pos hc14).trans ((if_neg hc18).trans (rfl)))))).symm
        · refine own_st (fun _ => XS.icmpNo X0.here hx rfl (hb hby own_dtok_27) rfl (flt hc14).1) ?_
          show own_End p e below P (s₁.setTop (mkF m 30 #[.val (.int p0)] []))
          refine own_st (fun _ => XS.iloadN X0.here hx rfl (hb hby own_dtok_30) rfl) ?_
          show own_End p e below P (s₁.setTop (mkF m 31 #[.val (.int p0)] [(.int p0)]))
          refine own_st (fun _ => XS.bipush X0.here hx rfl (hb hby own_dtok_31)) ?_
          show own_End p e below P (s₁.setTop (mkF m 33 #[.val (.int p0)] [(.int (57 : Int32)), (.int p0)]))
          by_cases hc19 : (57 : Int32) < p0
          · refine own_st (fun _ => XS.icmpNo X0.here hx rfl (hb hby own_dtok_33) rfl (tlt hc19).2.2.2) ?_
            show own_End p e below P (s₁.setTop (mkF m 36 #[.val (.int p0)] []))
            obtain ⟨a20, T20, h20, k20, b20, c20, X20, e20, E20, hS, hk20, hZ, hown, EA20, FC20, FV20, VV20, -, -, hC20, Li20, -, st20⟩ := ldcCH X0 hx hZ hown (hw _ (List.mem_of_getElem? (i := 4) rfl)) (own_wS hw) e0 hS hk hEL (List.mem_of_getElem? (i := 0) rfl) hC.1 (vs := [(.int (33 : Int32)), (.int (35 : Int32)), (.int (36 : Int32)), (.int (37 : Int32)), (.int (38 : Int32)), (.int (39 : Int32)), (.int (42 : Int32)), (.int (43 : Int32)), (.int (45 : Int32)), (.int (46 : Int32)), (.int (94 : Int32)), (.int (95 : Int32)), (.int (96 : Int32)), (.int (124 : Int32)), (.int (126 : Int32))]) (z := (15 : Int32)) ⟨by decide, by rfl⟩ (by decide) (by decide) (g := (mkF m 36 #[.val (.int p0)] [])) rfl (hb hby own_dtok_36) (n := 60) (by decide) (by decide) (by decide) (by decide)
            have hC := hC.trans hC20
            have K20 := Keep.ext K0 E20
            refine own_st (fun _ => st20 _) ?_
            show own_End p e below P (T20.setTop (mkF m 38 #[.val (.int p0)] [(.ref a20)]))
            refine own_st (fun _ => XS.iloadN X20.here hx rfl (hb hby own_dtok_38) rfl) ?_
            show own_End p e below P (T20.setTop (mkF m 39 #[.val (.int p0)] [(.int p0), (.ref a20)]))
            have G22 := (S_String_COMPACT_STRINGS.ext E20)
            refine own_callV X20 hx hZ (y := (⟨"java/lang/String", "indexOf", "(I)I"⟩ : MethodName)) (z := (⟨"java/lang/String", "indexOf", "(I)I"⟩ : MethodName)) hown (hw _ (List.mem_of_getElem? (i := 12) rfl)) (hw _ (List.mem_of_getElem? (i := 13) rfl)) (notFace_of_selects (args := #[]) (mvT hZ (hw _ (List.mem_of_getElem? (i := 15) rfl)))) (hw _ (List.mem_of_getElem? (i := 15) rfl)) (hw _ (List.mem_of_getElem? (i := 14) rfl)) (hw _ (List.mem_of_getElem? (i := 5) rfl)) (hw _ (List.mem_of_getElem? (i := 16) rfl)) (by decide) EA20 (own_mix1 l Z a0 hw [] a20 p0 b20 s_String_COMPACT_STRINGS c20 h20 n0 (Nat.le_trans Z0 K20.1) EA20 FV20 FC20 G22 VV20 hnz) 0 (by decide) (by decide) e20 (by decide) (by decide) (g := (mkF m 39 #[.val (.int p0)] [(.int p0), (.ref a20)])) rfl (by rw [hml']; rfl) (argsL := [(.int p0)]) (rest := []) rfl (lenOf own_pd_I_I_227 rfl) rfl (by show 2 * 0 + _ ≤ _; exact Nat.le_of_eq rfl) (hb hby own_dtok_39) (fun r21 T21 L21 X21 hQ21 => ?_)
            obtain ⟨rfl, Nq21, eq21⟩ := hQ21
            have N21 := Fr.app N0 Nq21
            show own_End p e below P (T21.setTop (mkF m 42 #[.val (.int p0)] [(.int (own_fix1 p0 s_String_COMPACT_STRINGS))]))
            by_cases hc23 : (own_fix1 p0 s_String_COMPACT_STRINGS) < (0 : Int32)
            · refine own_st (fun _ => XS.ifYes X21.here hx rfl (pc0 := 42) (pc' := 49) rfl (hb hby own_dtok_42) rfl ((if0 _ _).trans (tlt hc23).1) (by decide) (by decide)) ?_
              show own_End p e below P (T21.setTop (mkF m 49 #[.val (.int p0)] []))
              refine own_st (fun _ => XS.iconst X21.here hx rfl (hb hby own_dtok_49)) ?_
              show own_End p e below P (T21.setTop (mkF m 50 #[.val (.int p0)] [(.int (0 : Int32))]))
              refine own_retNH X21 hS hk20 eq21 hZ hEL hC hx hlk hP (t := .boolean) (by simp) hrt (hb hby own_dtok_50) (by decide) (by decide) ⟨congrArg (fun z => some (Value.int z)) ?_, N21, (by rw [eq21]; exact K20)⟩
              exact (show own_ftok p0 s_String_COMPACT_STRINGS = (0 : Int32) from (if_pos hc1).trans ((if_neg hc2).trans ((if_pos hc13).trans ((if_neg hc14).trans ((if_pos hc19).trans ((if_pos hc23).trans (rfl))))))).symm
            · refine own_st (fun _ => XS.ifNo X21.here hx rfl (hb hby own_dtok_42) rfl ((if0 _ _).trans (flt hc23).1)) ?_
              show own_End p e below P (T21.setTop (mkF m 45 #[.val (.int p0)] []))
              refine own_st (fun _ => XS.iconst X21.here hx rfl (hb hby own_dtok_45)) ?_
              show own_End p e below P (T21.setTop (mkF m 46 #[.val (.int p0)] [(.int (1 : Int32))]))
              refine own_st (fun _ => XS.goto X21.here hx rfl (pc0 := 46) (pc' := 50) rfl (hb hby own_dtok_46) (by decide) (by decide)) ?_
              show own_End p e below P (T21.setTop (mkF m 50 #[.val (.int p0)] [(.int (1 : Int32))]))
              refine own_retNH X21 hS hk20 eq21 hZ hEL hC hx hlk hP (t := .boolean) (by simp) hrt (hb hby own_dtok_50) (by decide) (by decide) ⟨congrArg (fun z => some (Value.int z)) ?_, N21, (by rw [eq21]; exact K20)⟩
              exact (show own_ftok p0 s_String_COMPACT_STRINGS = (1 : Int32) from (if_pos hc1).trans ((if_neg hc2).trans ((if_pos hc13).trans ((if_neg hc14).trans ((if_pos hc19).trans ((if_neg hc23).trans (rfl))))))).symm
          · refine own_st (fun _ => XS.icmpYes X0.here hx rfl (pc0 := 33) (pc' := 45) rfl (hb hby own_dtok_33) rfl (flt hc19).2.2.2 (by decide) (by decide)) ?_
            show own_End p e below P (s₁.setTop (mkF m 45 #[.val (.int p0)] []))
            refine own_st (fun _ => XS.iconst X0.here hx rfl (hb hby own_dtok_45)) ?_
            show own_End p e below P (s₁.setTop (mkF m 46 #[.val (.int p0)] [(.int (1 : Int32))]))
            refine own_st (fun _ => XS.goto X0.here hx rfl (pc0 := 46) (pc' := 50) rfl (hb hby own_dtok_46) (by decide) (by decide)) ?_
            show own_End p e below P (s₁.setTop (mkF m 50 #[.val (.int p0)] [(.int (1 : Int32))]))
            refine own_retNH X0 hS hk e0 hZ hEL hC hx hlk hP (t := .boolean) (by simp) hrt (hb hby own_dtok_50) (by decide) (by decide) ⟨congrArg (fun z => some (Value.int z)) ?_, N0, (by rw [e0]; exact K0)⟩
            exact (show own_ftok p0 s_String_COMPACT_STRINGS = (1 : Int32) from (if_pos hc1).trans ((if_neg hc2).trans ((if_pos hc13).trans ((if_neg hc14).trans ((if_neg hc19).trans (rfl)))))).symm
      · refine own_st (fun _ => XS.icmpYes X0.here hx rfl (pc0 := 21) (pc' := 45) rfl (hb hby own_dtok_21) rfl (flt hc13).2.2.2 (by decide) (by decide)) ?_
        show own_End p e below P (s₁.setTop (mkF m 45 #[.val (.int p0)] []))
        refine own_st (fun _ => XS.iconst X0.here hx rfl (hb hby own_dtok_45)) ?_
        show own_End p e below P (s₁.setTop (mkF m 46 #[.val (.int p0)] [(.int (1 : Int32))]))
        refine own_st (fun _ => XS.goto X0.here hx rfl (pc0 := 46) (pc' := 50) rfl (hb hby own_dtok_46) (by decide) (by decide)) ?_
        show own_End p e below P (s₁.setTop (mkF m 50 #[.val (.int p0)] [(.int (1 : Int32))]))
        refine own_retNH X0 hS hk e0 hZ hEL hC hx hlk hP (t := .boolean) (by simp) hrt (hb hby own_dtok_50) (by decide) (by decide) ⟨congrArg (fun z => some (Value.int z)) ?_, N0, (by rw [e0]; exact K0)⟩
        exact (show own_ftok p0 s_String_COMPACT_STRINGS = (1 : Int32) from (if_pos hc1).trans ((if_neg hc2).trans ((if_neg hc13).trans (rfl)))).symm
  · refine own_st (fun _ => XS.icmpNo X0.here hx rfl (hb hby own_dtok_3) rfl (flt hc1).1) ?_
    show own_End p e below P (s₁.setTop (mkF m 6 #[.val (.int p0)] []))
    refine own_st (fun _ => XS.iloadN X0.here hx rfl (hb hby own_dtok_6) rfl) ?_
    show own_End p e below P (s₁.setTop (mkF m 7 #[.val (.int p0)] [(.int p0)]))
    refine own_st (fun _ => XS.bipush X0.here hx rfl (hb hby own_dtok_7)) ?_
    show own_End p e below P (s₁.setTop (mkF m 9 #[.val (.int p0)] [(.int (122 : Int32)), (.int p0)]))
    by_cases hc24 : (122 : Int32) < p0
    · refine own_st (fun _ => XS.icmpNo X0.here hx rfl (hb hby own_dtok_9) rfl (tlt hc24).2.2.2) ?_
      show own_End p e below P (s₁.setTop (mkF m 12 #[.val (.int p0)] []))
      refine own_st (fun _ => XS.iloadN X0.here hx rfl (hb hby own_dtok_12) rfl) ?_
      show own_End p e below P (s₁.setTop (mkF m 13 #[.val (.int p0)] [(.int p0)]))
      refine own_st (fun _ => XS.bipush X0.here hx rfl (hb hby own_dtok_13)) ?_
      show own_End p e below P (s₁.setTop (mkF m 15 #[.val (.int p0)] [(.int (65 : Int32)), (.int p0)]))
      by_cases hc25 : p0 < (65 : Int32)
      · refine own_st (fun _ => XS.icmpYes X0.here hx rfl (pc0 := 15) (pc' := 24) rfl (hb hby own_dtok_15) rfl (tlt hc25).1 (by decide) (by decide)) ?_
        show own_End p e below P (s₁.setTop (mkF m 24 #[.val (.int p0)] []))
        refine own_st (fun _ => XS.iloadN X0.here hx rfl (hb hby own_dtok_24) rfl) ?_
        show own_End p e below P (s₁.setTop (mkF m 25 #[.val (.int p0)] [(.int p0)]))
        refine own_st (fun _ => XS.bipush X0.here hx rfl (hb hby own_dtok_25)) ?_
        show own_End p e below P (s₁.setTop (mkF m 27 #[.val (.int p0)] [(.int (48 : Int32)), (.int p0)]))
        by_cases hc26 : p0 < (48 : Int32)
        · refine own_st (fun _ => XS.icmpYes X0.here hx rfl (pc0 := 27) (pc' := 36) rfl (hb hby own_dtok_27) rfl (tlt hc26).1 (by decide) (by decide)) ?_
          show own_End p e below P (s₁.setTop (mkF m 36 #[.val (.int p0)] []))
          obtain ⟨a27, T27, h27, k27, b27, c27, X27, e27, E27, hS, hk27, hZ, hown, EA27, FC27, FV27, VV27, -, -, hC27, Li27, -, st27⟩ := ldcCH X0 hx hZ hown (hw _ (List.mem_of_getElem? (i := 4) rfl)) (own_wS hw) e0 hS hk hEL (List.mem_of_getElem? (i := 0) rfl) hC.1 (vs := [(.int (33 : Int32)), (.int (35 : Int32)), (.int (36 : Int32)), (.int (37 : Int32)), (.int (38 : Int32)), (.int (39 : Int32)), (.int (42 : Int32)), (.int (43 : Int32)), (.int (45 : Int32)), (.int (46 : Int32)), (.int (94 : Int32)), (.int (95 : Int32)), (.int (96 : Int32)), (.int (124 : Int32)), (.int (126 : Int32))]) (z := (15 : Int32)) ⟨by decide, by rfl⟩ (by decide) (by decide) (g := (mkF m 36 #[.val (.int p0)] [])) rfl (hb hby own_dtok_36) (n := 60) (by decide) (by decide) (by decide) (by decide)
          have hC := hC.trans hC27
          have K27 := Keep.ext K0 E27
          refine own_st (fun _ => st27 _) ?_
          show own_End p e below P (T27.setTop (mkF m 38 #[.val (.int p0)] [(.ref a27)]))
          refine own_st (fun _ => XS.iloadN X27.here hx rfl (hb hby own_dtok_38) rfl) ?_
          show own_End p e below P (T27.setTop (mkF m 39 #[.val (.int p0)] [(.int p0), (.ref a27)]))
          have G29 := (S_String_COMPACT_STRINGS.ext E27)
          refine own_callV X27 hx hZ (y := (⟨"java/lang/String", "indexOf", "(I)I"⟩ : MethodName)) (z := (⟨"java/lang/String", "indexOf", "(I)I"⟩ : MethodName)) hown (hw _ (List.mem_of_getElem? (i := 12) rfl)) (hw _ (List.mem_of_getElem? (i := 13) rfl)) (notFace_of_selects (args := #[]) (mvT hZ (hw _ (List.mem_of_getElem? (i := 15) rfl)))) (hw _ (List.mem_of_getElem? (i := 15) rfl)) (hw _ (List.mem_of_getElem? (i := 14) rfl)) (hw _ (List.mem_of_getElem? (i := 5) rfl)) (hw _ (List.mem_of_getElem? (i := 16) rfl)) (by decide) EA27 (own_mix1 l Z a0 hw [] a27 p0 b27 s_String_COMPACT_STRINGS c27 h27 n0 (Nat.le_trans Z0 K27.1) EA27 FV27 FC27 G29 VV27 hnz) 0 (by decide) (by decide) e27 (by decide) (by decide) (g := (mkF m 39 #[.val (.int p0)] [(.int p0), (.ref a27)])) rfl (by rw [hml']; rfl) (argsL := [(.int p0)]) (rest := []) rfl (lenOf own_pd_I_I_227 rfl) rfl (by show 2 * 0 + _ ≤ _; exact Nat.le_of_eq rfl) (hb hby own_dtok_39) (fun r28 T28 L28 X28 hQ28 => ?_)
          obtain ⟨rfl, Nq28, eq28⟩ := hQ28
          have N28 := Fr.app N0 Nq28
          show own_End p e below P (T28.setTop (mkF m 42 #[.val (.int p0)] [(.int (own_fix1 p0 s_String_COMPACT_STRINGS))]))
          by_cases hc30 : (own_fix1 p0 s_String_COMPACT_STRINGS) < (0 : Int32)
          · refine own_st (fun _ => XS.ifYes X28.here hx rfl (pc0 := 42) (pc' := 49) rfl (hb hby own_dtok_42) rfl ((if0 _ _).trans (tlt hc30).1) (by decide) (by decide)) ?_
            show own_End p e below P (T28.setTop (mkF m 49 #[.val (.int p0)] []))
            refine own_st (fun _ => XS.iconst X28.here hx rfl (hb hby own_dtok_49)) ?_
            show own_End p e below P (T28.setTop (mkF m 50 #[.val (.int p0)] [(.int (0 : Int32))]))
            refine own_retNH X28 hS hk27 eq28 hZ hEL hC hx hlk hP (t := .boolean) (by simp) hrt (hb hby own_dtok_50) (by decide) (by decide) ⟨congrArg (fun z => some (Value.int z)) ?_, N28, (by rw [eq28]; exact K27)⟩
            exact (show own_ftok p0 s_String_COMPACT_STRINGS = (0 : Int32) from (if_neg hc1).trans ((if_pos hc24).trans ((if_pos hc25).trans ((if_pos hc26).trans ((if_pos hc30).trans (rfl)))))).symm
          · refine own_st (fun _ => XS.ifNo X28.here hx rfl (hb hby own_dtok_42) rfl ((if0 _ _).trans (flt hc30).1)) ?_
            show own_End p e below P (T28.setTop (mkF m 45 #[.val (.int p0)] []))
            refine own_st (fun _ => XS.iconst X28.here hx rfl (hb hby own_dtok_45)) ?_
            show own_End p e below P (T28.setTop (mkF m 46 #[.val (.int p0)] [(.int (1 : Int32))]))
            refine own_st (fun _ => XS.goto X28.here hx rfl (pc0 := 46) (pc' := 50) rfl (hb hby own_dtok_46) (by decide) (by decide)) ?_
            show own_End p e below P (T28.setTop (mkF m 50 #[.val (.int p0)] [(.int (1 : Int32))]))
            refine own_retNH X28 hS hk27 eq28 hZ hEL hC hx hlk hP (t := .boolean) (by simp) hrt (hb hby own_dtok_50) (by decide) (by decide) ⟨congrArg (fun z => some (Value.int z)) ?_, N28, (by rw [eq28]; exact K27)⟩
            exact (show own_ftok p0 s_String_COMPACT_STRINGS = (1 : Int32) from (if_neg hc1).trans ((if_pos hc24).trans ((if_pos hc25).trans ((if_pos hc26).trans ((if_neg hc30).trans (rfl)))))).symm
        · refine own_st (fun _ => XS.icmpNo X0.here hx rfl (hb hby own_dtok_27) rfl (flt hc26).1) ?_
          show own_End p e below P (s₁.setTop (mkF m 30 #[.val (.int p0)] []))
          refine own_st (fun _ => XS.iloadN X0.here hx rfl (hb hby own_dtok_30) rfl) ?_
          show own_End p e below P (s₁.setTop (mkF m 31 #[.val (.int p0)] [(.int p0)]))
          refine own_st (fun _ => XS.bipush X0.here hx rfl (hb hby own_dtok_31)) ?_
          show own_End p e below P (s₁.setTop (mkF m 33 #[.val (.int p0)] [(.int (57 : Int32)), (.int p0)]))
          by_cases hc31 : (57 : Int32) < p0
          · refine own_st (fun _ => XS.icmpNo X0.here hx rfl (hb hby own_dtok_33) rfl (tlt hc31).2.2.2) ?_
            show own_End p e below P (s₁.setTop (mkF m 36 #[.val (.int p0)] []))
            obtain ⟨a32, T32, h32, k32, b32, c32, X32, e32, E32, hS, hk32, hZ, hown, EA32, FC32, FV32, VV32, -, -, hC32, Li32, -, st32⟩ := ldcCH X0 hx hZ hown (hw _ (List.mem_of_getElem? (i := 4) rfl)) (own_wS hw) e0 hS hk hEL (List.mem_of_getElem? (i := 0) rfl) hC.1 (vs := [(.int (33 : Int32)), (.int (35 : Int32)), (.int (36 : Int32)), (.int (37 : Int32)), (.int (38 : Int32)), (.int (39 : Int32)), (.int (42 : Int32)), (.int (43 : Int32)), (.int (45 : Int32)), (.int (46 : Int32)), (.int (94 : Int32)), (.int (95 : Int32)), (.int (96 : Int32)), (.int (124 : Int32)), (.int (126 : Int32))]) (z := (15 : Int32)) ⟨by decide, by rfl⟩ (by decide) (by decide) (g := (mkF m 36 #[.val (.int p0)] [])) rfl (hb hby own_dtok_36) (n := 60) (by decide) (by decide) (by decide) (by decide)
            have hC := hC.trans hC32
            have K32 := Keep.ext K0 E32
            refine own_st (fun _ => st32 _) ?_
            show own_End p e below P (T32.setTop (mkF m 38 #[.val (.int p0)] [(.ref a32)]))
            refine own_st (fun _ => XS.iloadN X32.here hx rfl (hb hby own_dtok_38) rfl) ?_
            show own_End p e below P (T32.setTop (mkF m 39 #[.val (.int p0)] [(.int p0), (.ref a32)]))
            have G34 := (S_String_COMPACT_STRINGS.ext E32)
            refine own_callV X32 hx hZ (y := (⟨"java/lang/String", "indexOf", "(I)I"⟩ : MethodName)) (z := (⟨"java/lang/String", "indexOf", "(I)I"⟩ : MethodName)) hown (hw _ (List.mem_of_getElem? (i := 12) rfl)) (hw _ (List.mem_of_getElem? (i := 13) rfl)) (notFace_of_selects (args := #[]) (mvT hZ (hw _ (List.mem_of_getElem? (i := 15) rfl)))) (hw _ (List.mem_of_getElem? (i := 15) rfl)) (hw _ (List.mem_of_getElem? (i := 14) rfl)) (hw _ (List.mem_of_getElem? (i := 5) rfl)) (hw _ (List.mem_of_getElem? (i := 16) rfl)) (by decide) EA32 (own_mix1 l Z a0 hw [] a32 p0 b32 s_String_COMPACT_STRINGS c32 h32 n0 (Nat.le_trans Z0 K32.1) EA32 FV32 FC32 G34 VV32 hnz) 0 (by decide) (by decide) e32 (by decide) (by decide) (g := (mkF m 39 #[.val (.int p0)] [(.int p0), (.ref a32)])) rfl (by rw [hml']; rfl) (argsL := [(.int p0)]) (rest := []) rfl (lenOf own_pd_I_I_227 rfl) rfl (by show 2 * 0 + _ ≤ _; exact Nat.le_of_eq rfl) (hb hby own_dtok_39) (fun r33 T33 L33 X33 hQ33 => ?_)
            obtain ⟨rfl, Nq33, eq33⟩ := hQ33
            have N33 := Fr.app N0 Nq33
            show own_End p e below P (T33.setTop (mkF m 42 #[.val (.int p0)] [(.int (own_fix1 p0 s_String_COMPACT_STRINGS))]))
            by_cases hc35 : (own_fix1 p0 s_String_COMPACT_STRINGS) < (0 : Int32)
            · refine own_st (fun _ => XS.ifYes X33.here hx rfl (pc0 := 42) (pc' := 49) rfl (hb hby own_dtok_42) rfl ((if0 _ _).trans (tlt hc35).1) (by decide) (by decide)) ?_
              show own_End p e below P (T33.setTop (mkF m 49 #[.val (.int p0)] []))
              refine own_st (fun _ => XS.iconst X33.here hx rfl (hb hby own_dtok_49)) ?_
              show own_End p e below P (T33.setTop (mkF m 50 #[.val (.int p0)] [(.int (0 : Int32))]))
              refine own_retNH X33 hS hk32 eq33 hZ hEL hC hx hlk hP (t := .boolean) (by simp) hrt (hb hby own_dtok_50) (by decide) (by decide) ⟨congrArg (fun z => some (Value.int z)) ?_, N33, (by rw [eq33]; exact K32)⟩
              exact (show own_ftok p0 s_String_COMPACT_STRINGS = (0 : Int32) from (if_neg hc1).trans ((if_pos hc24).trans ((if_pos hc25).trans ((if_neg hc26).trans ((if_pos hc31).trans ((if_pos hc35).trans (rfl))))))).symm
            · refine own_st (fun _ => XS.ifNo X33.here hx rfl (hb hby own_dtok_42) rfl ((if0 _ _).trans (flt hc35).1)) ?_
              show own_End p e below P (T33.setTop (mkF m 45 #[.val (.int p0)] []))
              refine own_st (fun _ => XS.iconst X33.here hx rfl (hb hby own_dtok_45)) ?_
              show own_End p e below P (T33.setTop (mkF m 46 #[.val (.int p0)] [(.int (1 : Int32))]))
              refine own_st (fun _ => XS.goto X33.here hx rfl (pc0 := 46) (pc' := 50) rfl (hb hby own_dtok_46) (by decide) (by decide)) ?_
              show own_End p e below P (T33.setTop (mkF m 50 #[.val (.int p0)] [(.int (1 : Int32))]))
              refine own_retNH X33 hS hk32 eq33 hZ hEL hC hx hlk hP (t := .boolean) (by simp) hrt (hb hby own_dtok_50) (by decide) (by decide) ⟨congrArg (fun z => some (Value.int z)) ?_, N33, (by rw [eq33]; exact K32)⟩
              exact (show own_ftok p0 s_String_COMPACT_STRINGS = (1 : Int32) from (if_neg hc1).trans ((if_pos hc24).trans ((if_pos hc25).trans ((if_neg hc26).trans ((if_pos hc31).trans ((if_neg hc35).trans (rfl))))))).symm
          · refine own_st (fun _ => XS.icmpYes X0.here hx rfl (pc0 := 33) (pc' := 45) rfl (hb hby own_dtok_33) rfl (flt hc31).2.2.2 (by decide) (by decide)) ?_
            show own_End p e below P (s₁.setTop (mkF m 45 #[.val (.int p0)] []))
            refine own_st (fun _ => XS.iconst X0.here hx rfl (hb hby own_dtok_45)) ?_
            show own_End p e below P (s₁.setTop (mkF m 46 #[.val (.int p0)] [(.int (1 : Int32))]))
            refine own_st (fun _ => XS.goto X0.here hx rfl (pc0 := 46) (pc' := 50) rfl (hb hby own_dtok_46) (by decide) (by decide)) ?_
            show own_End p e below P (s₁.setTop (mkF m 50 #[.val (.int p0)] [(.int (1 : Int32))]))
            refine own_retNH X0 hS hk e0 hZ hEL hC hx hlk hP (t := .boolean) (by simp) hrt (hb hby own_dtok_50) (by decide) (by decide) ⟨congrArg (fun z => some (Value.int z)) ?_, N0, (by rw [e0]; exact K0)⟩
            exact (show own_ftok p0 s_String_COMPACT_STRINGS = (1 : Int32) from (if_neg hc1).trans ((if_pos hc24).trans ((if_pos hc25).trans ((if_neg hc26).trans ((if_neg hc31).trans (rfl)))))).symm
      · refine own_st (fun _ => XS.icmpNo X0.here hx rfl (hb hby own_dtok_15) rfl (flt hc25).1) ?_
        show own_End p e below P (s₁.setTop (mkF m 18 #[.val (.int p0)] []))
        refine own_st (fun _ => XS.iloadN X0.here hx rfl (hb hby own_dtok_18) rfl) ?_
        show own_End p e below P (s₁.setTop (mkF m 19 #[.val (.int p0)] [(.int p0)]))
        refine own_st (fun _ => XS.bipush X0.here hx rfl (hb hby own_dtok_19)) ?_
        show own_End p e below P (s₁.setTop (mkF m 21 #[.val (.int p0)] [(.int (90 : Int32)), (.int p0)]))
        by_cases hc36 : (90 : Int32) < p0
        · refine own_st (fun _ => XS.icmpNo X0.here hx rfl (hb hby own_dtok_21) rfl (tlt hc36).2.2.2) ?_
          show own_End p e below P (s₁.setTop (mkF m 24 #[.val (.int p0)] []))
          refine own_st (fun _ => XS.iloadN X0.here hx rfl (hb hby own_dtok_24) rfl) ?_
          show own_End p e below P (s₁.setTop (mkF m 25 #[.val (.int p0)] [(.int p0)]))
          refine own_st (fun _ => XS.bipush X0.here hx rfl (hb hby own_dtok_25)) ?_
          show own_End p e below P (s₁.setTop (mkF m 27 #[.val (.int p0)] [(.int (48 : Int32)), (.int p0)]))
          by_cases hc37 : p0 < (48 : Int32)
          · refine own_st (fun _ => XS.icmpYes X0.here hx rfl (pc0 := 27) (pc' := 36) rfl (hb hby own_dtok_27) rfl (tlt hc37).1 (by decide) (by decide)) ?_
            show own_End p e below P (s₁.setTop (mkF m 36 #[.val (.int p0)] []))
            obtain ⟨a38, T38, h38, k38, b38, c38, X38, e38, E38, hS, hk38, hZ, hown, EA38, FC38, FV38, VV38, -, -, hC38, Li38, -, st38⟩ := ldcCH X0 hx hZ hown (hw _ (List.mem_of_getElem? (i := 4) rfl)) (own_wS hw) e0 hS hk hEL (List.mem_of_getElem? (i := 0) rfl) hC.1 (vs := [(.int (33 : Int32)), (.int (35 : Int32)), (.int (36 : Int32)), (.int (37 : Int32)), (.int (38 : Int32)), (.int (39 : Int32)), (.int (42 : Int32)), (.int (43 : Int32)), (.int (45 : Int32)), (.int (46 : Int32)), (.int (94 : Int32)), (.int (95 : Int32)), (.int (96 : Int32)), (.int (124 : Int32)), (.int (126 : Int32))]) (z := (15 : Int32)) ⟨by decide, by rfl⟩ (by decide) (by decide) (g := (mkF m 36 #[.val (.int p0)] [])) rfl (hb hby own_dtok_36) (n := 60) (by decide) (by decide) (by decide) (by decide)
            have hC := hC.trans hC38
            have K38 := Keep.ext K0 E38
            refine own_st (fun _ => st38 _) ?_
            show own_End p e below P (T38.setTop (mkF m 38 #[.val (.int p0)] [(.ref a38)]))
            refine own_st (fun _ => XS.iloadN X38.here hx rfl (hb hby own_dtok_38) rfl) ?_
            show own_End p e below P (T38.setTop (mkF m 39 #[.val (.int p0)] [(.int p0), (.ref a38)]))
            have G40 := (S_String_COMPACT_STRINGS.ext E38)
            refine own_callV X38 hx hZ (y := (⟨"java/lang/String", "indexOf", "(I)I"⟩ : MethodName)) (z := (⟨"java/lang/String", "indexOf", "(I)I"⟩ : MethodName)) hown (hw _ (List.mem_of_getElem? (i := 12) rfl)) (hw _ (List.mem_of_getElem? (i := 13) rfl)) (notFace_of_selects (args := #[]) (mvT hZ (hw _ (List.mem_of_getElem? (i := 15) rfl)))) (hw _ (List.mem_of_getElem? (i := 15) rfl)) (hw _ (List.mem_of_getElem? (i := 14) rfl)) (hw _ (List.mem_of_getElem? (i := 5) rfl)) (hw _ (List.mem_of_getElem? (i := 16) rfl)) (by decide) EA38 (own_mix1 l Z a0 hw [] a38 p0 b38 s_String_COMPACT_STRINGS c38 h38 n0 (Nat.le_trans Z0 K38.1) EA38 FV38 FC38 G40 VV38 hnz) 0 (by decide) (by decide) e38 (by decide) (by decide) (g := (mkF m 39 #[.val (.int p0)] [(.int p0), (.ref a38)])) rfl (by rw [hml']; rfl) (argsL := [(.int p0)]) (rest := []) rfl (lenOf own_pd_I_I_227 rfl) rfl (by show 2 * 0 + _ ≤ _; exact Nat.le_of_eq rfl) (hb hby own_dtok_39) (fun r39 T39 L39 X39 hQ39 => ?_)
            obtain ⟨rfl, Nq39, eq39⟩ := hQ39
            have N39 := Fr.app N0 Nq39
            show own_End p e below P (T39.setTop (mkF m 42 #[.val (.int p0)] [(.int (own_fix1 p0 s_String_COMPACT_STRINGS))]))
            by_cases hc41 : (own_fix1 p0 s_String_COMPACT_STRINGS) < (0 : Int32)
            · refine own_st (fun _ => XS.ifYes X39.here hx rfl (pc0 := 42) (pc' := 49) rfl (hb hby own_dtok_42) rfl ((if0 _ _).trans (tlt hc41).1) (by decide) (by decide)) ?_
              show own_End p e below P (T39.setTop (mkF m 49 #[.val (.int p0)] []))
              refine own_st (fun _ => XS.iconst X39.here hx rfl (hb hby own_dtok_49)) ?_
              show own_End p e below P (T39.setTop (mkF m 50 #[.val (.int p0)] [(.int (0 : Int32))]))
              refine own_retNH X39 hS hk38 eq39 hZ hEL hC hx hlk hP (t := .boolean) (by simp) hrt (hb hby own_dtok_50) (by decide) (by decide) ⟨congrArg (fun z => some (Value.int z)) ?_, N39, (by rw [eq39]; exact K38)⟩
              exact (show own_ftok p0 s_String_COMPACT_STRINGS = (0 : Int32) from (if_neg hc1).trans ((if_pos hc24).trans ((if_neg hc25).trans ((if_pos hc36).trans ((if_pos hc37).trans ((if_pos hc41).trans (rfl))))))).symm
            · refine own_st (fun _ => XS.ifNo X39.here hx rfl (hb hby own_dtok_42) rfl ((if0 _ _).trans (flt hc41).1)) ?_
              show own_End p e below P (T39.setTop (mkF m 45 #[.val (.int p0)] []))
              refine own_st (fun _ => XS.iconst X39.here hx rfl (hb hby own_dtok_45)) ?_
              show own_End p e below P (T39.setTop (mkF m 46 #[.val (.int p0)] [(.int (1 : Int32))]))
              refine own_st (fun _ => XS.goto X39.here hx rfl (pc0 := 46) (pc' := 50) rfl (hb hby own_dtok_46) (by decide) (by decide)) ?_
              show own_End p e below P (T39.setTop (mkF m 50 #[.val (.int p0)] [(.int (1 : Int32))]))
              refine own_retNH X39 hS hk38 eq39 hZ hEL hC hx hlk hP (t := .boolean) (by simp) hrt (hb hby own_dtok_50) (by decide) (by decide) ⟨congrArg (fun z => some (Value.int z)) ?_, N39, (by rw [eq39]; exact K38)⟩
              exact (show own_ftok p0 s_String_COMPACT_STRINGS = (1 : Int32) from (if_neg hc1).trans ((if_pos hc24).trans ((if_neg hc25).trans ((if_pos hc36).trans ((if_pos hc37).trans ((if_neg hc41).trans (rfl))))))).symm
          · refine own_st (fun _ => XS.icmpNo X0.here hx rfl (hb hby own_dtok_27) rfl (flt hc37).1) ?_
            show own_End p e below P (s₁.setTop (mkF m 30 #[.val (.int p0)] []))
            refine own_st (fun _ => XS.iloadN X0.here hx rfl (hb hby own_dtok_30) rfl) ?_
            show own_End p e below P (s₁.setTop (mkF m 31 #[.val (.int p0)] [(.int p0)]))
            refine own_st (fun _ => XS.bipush X0.here hx rfl (hb hby own_dtok_31)) ?_
            show own_End p e below P (s₁.setTop (mkF m 33 #[.val (.int p0)] [(.int (57 : Int32)), (.int p0)]))
            by_cases hc42 : (57 : Int32) < p0
            · refine own_st (fun _ => XS.icmpNo X0.here hx rfl (hb hby own_dtok_33) rfl (tlt hc42).2.2.2) ?_
              show own_End p e below P (s₁.setTop (mkF m 36 #[.val (.int p0)] []))
              obtain ⟨a43, T43, h43, k43, b43, c43, X43, e43, E43, hS, hk43, hZ, hown, EA43, FC43, FV43, VV43, -, -, hC43, Li43, -, st43⟩ := ldcCH X0 hx hZ hown (hw _ (List.mem_of_getElem? (i := 4) rfl)) (own_wS hw) e0 hS hk hEL (List.mem_of_getElem? (i := 0) rfl) hC.1 (vs := [(.int (33 : Int32)), (.int (35 : Int32)), (.int (36 : Int32)), (.int (37 : Int32)), (.int (38 : Int32)), (.int (39 : Int32)), (.int (42 : Int32)), (.int (43 : Int32)), (.int (45 : Int32)), (.int (46 : Int32)), (.int (94 : Int32)), (.int (95 : Int32)), (.int (96 : Int32)), (.int (124 : Int32)), (.int (126 : Int32))]) (z := (15 : Int32)) ⟨by decide, by rfl⟩ (by decide) (by decide) (g := (mkF m 36 #[.val (.int p0)] [])) rfl (hb hby own_dtok_36) (n := 60) (by decide) (by decide) (by decide) (by decide)
              have hC := hC.trans hC43
              have K43 := Keep.ext K0 E43
              refine own_st (fun _ => st43 _) ?_
              show own_End p e below P (T43.setTop (mkF m 38 #[.val (.int p0)] [(.ref a43)]))
              refine own_st (fun _ => XS.iloadN X43.here hx rfl (hb hby own_dtok_38) rfl) ?_
              show own_End p e below P (T43.setTop (mkF m 39 #[.val (.int p0)] [(.int p0), (.ref a43)]))
              have G45 := (S_String_COMPACT_STRINGS.ext E43)
              refine own_callV X43 hx hZ (y := (⟨"java/lang/String", "indexOf", "(I)I"⟩ : MethodName)) (z := (⟨"java/lang/String", "indexOf", "(I)I"⟩ : MethodName)) hown (hw _ (List.mem_of_getElem? (i := 12) rfl)) (hw _ (List.mem_of_getElem? (i := 13) rfl)) (notFace_of_selects (args := #[]) (mvT hZ (hw _ (List.mem_of_getElem? (i := 15) rfl)))) (hw _ (List.mem_of_getElem? (i := 15) rfl)) (hw _ (List.mem_of_getElem? (i := 14) rfl)) (hw _ (List.mem_of_getElem? (i := 5) rfl)) (hw _ (List.mem_of_getElem? (i := 16) rfl)) (by decide) EA43 (own_mix1 l Z a0 hw [] a43 p0 b43 s_String_COMPACT_STRINGS c43 h43 n0 (Nat.le_trans Z0 K43.1) EA43 FV43 FC43 G45 VV43 hnz) 0 (by decide) (by decide) e43 (by decide) (by decide) (g := (mkF m 39 #[.val (.int p0)] [(.int p0), (.ref a43)])) rfl (by rw [hml']; rfl) (argsL := [(.int p0)]) (rest := []) rfl (lenOf own_pd_I_I_227 rfl) rfl (by show 2 * 0 + _ ≤ _; exact Nat.le_of_eq rfl) (hb hby own_dtok_39) (fun r44 T44 L44 X44 hQ44 => ?_)
              obtain ⟨rfl, Nq44, eq44⟩ := hQ44
              have N44 := Fr.app N0 Nq44
              show own_End p e below P (T44.setTop (mkF m 42 #[.val (.int p0)] [(.int (own_fix1 p0 s_String_COMPACT_STRINGS))]))
              by_cases hc46 : (own_fix1 p0 s_String_COMPACT_STRINGS) < (0 : Int32)
              · refine own_st (fun _ => XS.ifYes X44.here hx rfl (pc0 := 42) (pc' := 49) rfl (hb hby own_dtok_42) rfl ((if0 _ _).trans (tlt hc46).1) (by decide) (by decide)) ?_
                show own_End p e below P (T44.setTop (mkF m 49 #[.val (.int p0)] []))
                refine own_st (fun _ => XS.iconst X44.here hx rfl (hb hby own_dtok_49)) ?_
                show own_End p e below P (T44.setTop (mkF m 50 #[.val (.int p0)] [(.int (0 : Int32))]))
                refine own_retNH X44 hS hk43 eq44 hZ hEL hC hx hlk hP (t := .boolean) (by simp) hrt (hb hby own_dtok_50) (by decide) (by decide) ⟨congrArg (fun z => some (Value.int z)) ?_, N44, (by rw [eq44]; exact K43)⟩
                exact (show own_ftok p0 s_String_COMPACT_STRINGS = (0 : Int32) from (if_neg hc1).trans ((if_pos hc24).trans ((if_neg hc25).trans ((if_pos hc36).trans ((if_neg hc37).trans ((if_pos hc42).trans ((if_pos hc46).trans (rfl)))))))).symm
              · refine own_st (fun _ => XS.ifNo X44.here hx rfl (hb hby own_dtok_42) rfl ((if0 _ _).trans (flt hc46).1)) ?_
                show own_End p e below P (T44.setTop (mkF m 45 #[.val (.int p0)] []))
                refine own_st (fun _ => XS.iconst X44.here hx rfl (hb hby own_dtok_45)) ?_
                show own_End p e below P (T44.setTop (mkF m 46 #[.val (.int p0)] [(.int (1 : Int32))]))
                refine own_st (fun _ => XS.goto X44.here hx rfl (pc0 := 46) (pc' := 50) rfl (hb hby own_dtok_46) (by decide) (by decide)) ?_
                show own_End p e below P (T44.setTop (mkF m 50 #[.val (.int p0)] [(.int (1 : Int32))]))
                refine own_retNH X44 hS hk43 eq44 hZ hEL hC hx hlk hP (t := .boolean) (by simp) hrt (hb hby own_dtok_50) (by decide) (by decide) ⟨congrArg (fun z => some (Value.int z)) ?_, N44, (by rw [eq44]; exact K43)⟩
                exact (show own_ftok p0 s_String_COMPACT_STRINGS = (1 : Int32) from (if_neg hc1).trans ((if_pos hc24).trans ((if_neg hc25).trans ((if_pos hc36).trans ((if_neg hc37).trans ((if_pos hc42).trans ((if_neg hc46).trans (rfl)))))))).symm
            · refine own_st (fun _ => XS.icmpYes X0.here hx rfl (pc0 := 33) (pc' := 45) rfl (hb hby own_dtok_33) rfl (flt hc42).2.2.2 (by decide) (by decide)) ?_
              show own_End p e below P (s₁.setTop (mkF m 45 #[.val (.int p0)] []))
              refine own_st (fun _ => XS.iconst X0.here hx rfl (hb hby own_dtok_45)) ?_
              show own_End p e below P (s₁.setTop (mkF m 46 #[.val (.int p0)] [(.int (1 : Int32))]))
              refine own_st (fun _ => XS.goto X0.here hx rfl (pc0 := 46) (pc' := 50) rfl (hb hby own_dtok_46) (by decide) (by decide)) ?_
              show own_End p e below P (s₁.setTop (mkF m 50 #[.val (.int p0)] [(.int (1 : Int32))]))
              refine own_retNH X0 hS hk e0 hZ hEL hC hx hlk hP (t := .boolean) (by simp) hrt (hb hby own_dtok_50) (by decide) (by decide) ⟨congrArg (fun z => some (Value.int z)) ?_, N0, (by rw [e0]; exact K0)⟩
              exact (show own_ftok p0 s_String_COMPACT_STRINGS = (1 : Int32) from (if_neg hc1).trans ((if_pos hc24).trans ((if_neg hc25).trans ((if_pos hc36).trans ((if_neg hc37).trans ((if_neg hc42).trans (rfl))))))).symm
        · refine own_st (fun _ => XS.icmpYes X0.here hx rfl (pc0 := 21) (pc' := 45) rfl (hb hby own_dtok_21) rfl (flt hc36).2.2.2 (by decide) (by decide)) ?_
          show own_End p e below P (s₁.setTop (mkF m 45 #[.val (.int p0)] []))
          refine own_st (fun _ => XS.iconst X0.here hx rfl (hb hby own_dtok_45)) ?_
          show own_End p e below P (s₁.setTop (mkF m 46 #[.val (.int p0)] [(.int (1 : Int32))]))
          refine own_st (fun _ => XS.goto X0.here hx rfl (pc0 := 46) (pc' := 50) rfl (hb hby own_dtok_46) (by decide) (by decide)) ?_
          show own_End p e below P (s₁.setTop (mkF m 50 #[.val (.int p0)] [(.int (1 : Int32))]))
          refine own_retNH X0 hS hk e0 hZ hEL hC hx hlk hP (t := .boolean) (by simp) hrt (hb hby own_dtok_50) (by decide) (by decide) ⟨congrArg (fun z => some (Value.int z)) ?_, N0, (by rw [e0]; exact K0)⟩
          exact (show own_ftok p0 s_String_COMPACT_STRINGS = (1 : Int32) from (if_neg hc1).trans ((if_pos hc24).trans ((if_neg hc25).trans ((if_neg hc36).trans (rfl))))).symm
    · refine own_st (fun _ => XS.icmpYes X0.here hx rfl (pc0 := 9) (pc' := 45) rfl (hb hby own_dtok_9) rfl (flt hc24).2.2.2 (by decide) (by decide)) ?_
      show own_End p e below P (s₁.setTop (mkF m 45 #[.val (.int p0)] []))
      refine own_st (fun _ => XS.iconst X0.here hx rfl (hb hby own_dtok_45)) ?_
      show own_End p e below P (s₁.setTop (mkF m 46 #[.val (.int p0)] [(.int (1 : Int32))]))
      refine own_st (fun _ => XS.goto X0.here hx rfl (pc0 := 46) (pc' := 50) rfl (hb hby own_dtok_46) (by decide) (by decide)) ?_
      show own_End p e below P (s₁.setTop (mkF m 50 #[.val (.int p0)] [(.int (1 : Int32))]))
      refine own_retNH X0 hS hk e0 hZ hEL hC hx hlk hP (t := .boolean) (by simp) hrt (hb hby own_dtok_50) (by decide) (by decide) ⟨congrArg (fun z => some (Value.int z)) ?_, N0, (by rw [e0]; exact K0)⟩
      exact (show own_ftok p0 s_String_COMPACT_STRINGS = (1 : Int32) from (if_neg hc1).trans ((if_neg hc24).trans (rfl))).symm
theorem own_ddel_0 : decode method_2_code 0 = .ok (.iload_n 0, 1) := by decide +kernel
theorem own_ddel_1 : decode method_2_code 1 = .ok (.bipush 34, 2) := by decide +kernel
theorem own_ddel_3 : decode method_2_code 3 = .ok (.if_icmp .eq 99, 3) := by decide +kernel
theorem own_ddel_102 : decode method_2_code 102 = .ok (.iconst 1, 1) := by decide +kernel
theorem own_ddel_103 : decode method_2_code 103 = .ok (.goto 4, 3) := by decide +kernel
theorem own_ddel_107 : decode method_2_code 107 = .ok (.ireturn, 1) := by decide +kernel
theorem own_ddel_6 : decode method_2_code 6 = .ok (.iload_n 0, 1) := by decide +kernel
theorem own_ddel_7 : decode method_2_code 7 = .ok (.bipush 40, 2) := by decide +kernel
theorem own_ddel_9 : decode method_2_code 9 = .ok (.if_icmp .eq 93, 3) := by decide +kernel
theorem own_ddel_12 : decode method_2_code 12 = .ok (.iload_n 0, 1) := by decide +kernel
theorem own_ddel_13 : decode method_2_code 13 = .ok (.bipush 41, 2) := by decide +kernel
theorem own_ddel_15 : decode method_2_code 15 = .ok (.if_icmp .eq 87, 3) := by decide +kernel
theorem own_ddel_18 : decode method_2_code 18 = .ok (.iload_n 0, 1) := by decide +kernel
theorem own_ddel_19 : decode method_2_code 19 = .ok (.bipush 44, 2) := by decide +kernel
theorem own_ddel_21 : decode method_2_code 21 = .ok (.if_icmp .eq 81, 3) := by decide +kernel
theorem own_ddel_24 : decode method_2_code 24 = .ok (.iload_n 0, 1) := by decide +kernel
theorem own_ddel_25 : decode method_2_code 25 = .ok (.bipush 47, 2) := by decide +kernel
theorem own_ddel_27 : decode method_2_code 27 = .ok (.if_icmp .eq 75, 3) := by decide +kernel
theorem own_ddel_30 : decode method_2_code 30 = .ok (.iload_n 0, 1) := by decide +kernel
theorem own_ddel_31 : decode method_2_code 31 = .ok (.bipush 58, 2) := by decide +kernel
theorem own_ddel_33 : decode method_2_code 33 = .ok (.if_icmp .eq 69, 3) := by decide +kernel
theorem own_ddel_36 : decode method_2_code 36 = .ok (.iload_n 0, 1) := by decide +kernel
theorem own_ddel_37 : decode method_2_code 37 = .ok (.bipush 59, 2) := by decide +kernel
theorem own_ddel_39 : decode method_2_code 39 = .ok (.if_icmp .eq 63, 3) := by decide +kernel
theorem own_ddel_42 : decode method_2_code 42 = .ok (.iload_n 0, 1) := by decide +kernel
theorem own_ddel_43 : decode method_2_code 43 = .ok (.bipush 60, 2) := by decide +kernel
theorem own_ddel_45 : decode method_2_code 45 = .ok (.if_icmp .eq 57, 3) := by decide +kernel
theorem own_ddel_48 : decode method_2_code 48 = .ok (.iload_n 0, 1) := by decide +kernel
theorem own_ddel_49 : decode method_2_code 49 = .ok (.bipush 61, 2) := by decide +kernel
theorem own_ddel_51 : decode method_2_code 51 = .ok (.if_icmp .eq 51, 3) := by decide +kernel
theorem own_ddel_54 : decode method_2_code 54 = .ok (.iload_n 0, 1) := by decide +kernel
theorem own_ddel_55 : decode method_2_code 55 = .ok (.bipush 62, 2) := by decide +kernel
theorem own_ddel_57 : decode method_2_code 57 = .ok (.if_icmp .eq 45, 3) := by decide +kernel
theorem own_ddel_60 : decode method_2_code 60 = .ok (.iload_n 0, 1) := by decide +kernel
theorem own_ddel_61 : decode method_2_code 61 = .ok (.bipush 63, 2) := by decide +kernel
theorem own_ddel_63 : decode method_2_code 63 = .ok (.if_icmp .eq 39, 3) := by decide +kernel
theorem own_ddel_66 : decode method_2_code 66 = .ok (.iload_n 0, 1) := by decide +kernel
theorem own_ddel_67 : decode method_2_code 67 = .ok (.bipush 64, 2) := by decide +kernel
theorem own_ddel_69 : decode method_2_code 69 = .ok (.if_icmp .eq 33, 3) := by decide +kernel
theorem own_ddel_72 : decode method_2_code 72 = .ok (.iload_n 0, 1) := by decide +kernel
theorem own_ddel_73 : decode method_2_code 73 = .ok (.bipush 91, 2) := by decide +kernel
theorem own_ddel_75 : decode method_2_code 75 = .ok (.if_icmp .eq 27, 3) := by decide +kernel
theorem own_ddel_78 : decode method_2_code 78 = .ok (.iload_n 0, 1) := by decide +kernel
theorem own_ddel_79 : decode method_2_code 79 = .ok (.bipush 92, 2) := by decide +kernel
theorem own_ddel_81 : decode method_2_code 81 = .ok (.if_icmp .eq 21, 3) := by decide +kernel
theorem own_ddel_84 : decode method_2_code 84 = .ok (.iload_n 0, 1) := by decide +kernel
theorem own_ddel_85 : decode method_2_code 85 = .ok (.bipush 93, 2) := by decide +kernel
theorem own_ddel_87 : decode method_2_code 87 = .ok (.if_icmp .eq 15, 3) := by decide +kernel
theorem own_ddel_90 : decode method_2_code 90 = .ok (.iload_n 0, 1) := by decide +kernel
theorem own_ddel_91 : decode method_2_code 91 = .ok (.bipush 123, 2) := by decide +kernel
theorem own_ddel_93 : decode method_2_code 93 = .ok (.if_icmp .eq 9, 3) := by decide +kernel
theorem own_ddel_96 : decode method_2_code 96 = .ok (.iload_n 0, 1) := by decide +kernel
theorem own_ddel_97 : decode method_2_code 97 = .ok (.bipush 125, 2) := by decide +kernel
theorem own_ddel_99 : decode method_2_code 99 = .ok (.if_icmp .ne 7, 3) := by decide +kernel
theorem own_ddel_106 : decode method_2_code 106 = .ok (.iconst 0, 1) := by decide +kernel
theorem own_efdel (m : MethodId) (p0 : Int32) : entryFrame m #[(.int p0)] 1 = mkF m 0 #[.val (.int p0)] [] := by first | (simp [entryFrame, mkF, argsToLocals, Value.category]; done) | rfl
def own_fdel (p0 : Int32) : Int32 := (if p0 = (34 : Int32) then (1 : Int32) else (if p0 = (40 : Int32) then (1 : Int32) else (if p0 = (41 : Int32) then (1 : Int32) else (if p0 = (44 : Int32) then (1 : Int32) else (if p0 = (47 : Int32) then (1 : Int32) else (if p0 = (58 : Int32) then (1 : Int32) else (if p0 = (59 : Int32) then (1 : Int32) else (if p0 = (60 : Int32) then (1 : Int32) else (if p0 = (61 : Int32) then (1 : Int32) else (if p0 = (62 : Int32) then (1 : Int32) else (if p0 = (63 : Int32) then (1 : Int32) else (if p0 = (64 : Int32) then (1 : Int32) else (if p0 = (91 : Int32) then (1 : Int32) else (if p0 = (92 : Int32) then (1 : Int32) else (if p0 = (93 : Int32) then (1 : Int32) else (if p0 = (123 : Int32) then (1 : Int32) else (if p0 = (125 : Int32) then (1 : Int32) else (0 : Int32))))))))))))))))))
theorem own_pn_com_example_holdfast_holdfast_internal_HttpSyntaxIsTokenCharPinLaw : plainName "com/example/holdfast/holdfast/internal/HttpSyntaxIsTokenCharPinLaw" = true := by first | (simp [plainName, overriddenIn]; done) | decide +kernel
set_option maxRecDepth 65536 in
set_option maxHeartbeats 40000000 in
theorem own_mdel (l : Launch) (Z : State) (a0 : Array Value) (hw : ∀ d ∈ tables_1, d.before a0 Z = true) (ws : List Jvm.Cond) (p0 : Int32)  (h0 : Heap) (n0 : Nat) (Z0 : n0 ≤ h0.size)  :
    own_Met l Z (⟨"com/example/holdfast/holdfast/internal/HttpSyntaxIsTokenCharPinLaw", "isDelimiter", "(C)Z"⟩ : MethodName) method_2_code 1 (some .boolean) ws ({ frames := 0, cells := 0, slots := 0, locals := 0 } : Room) #[(.int p0)] h0 (fun (v : Option Value) (h : Heap) (L : List Loc) => v = some (.int (own_fdel p0)) ∧ Fr n0 L ∧ h = h0) := by
  refine own_enter (plainFor_of_name own_pn_com_example_holdfast_holdfast_internal_HttpSyntaxIsTokenCharPinLaw) ?_
  intro p e s m below meth c s₁ P hx hby hml hrt hlk hown hnm hZ X0 e0 hP
  have N0 := Fr.nil n0
  have K0 := Keep.refl h0 []
  have hml' : c.maxLocals = 1 := hml
  refine own_cast (own_efdel m p0) ?_
  show own_End p e below P (s₁.setTop (mkF m 0 #[.val (.int p0)] []))
  refine own_st (fun _ => XS.iloadN X0.here hx rfl (hb hby own_ddel_0) rfl) ?_
  show own_End p e below P (s₁.setTop (mkF m 1 #[.val (.int p0)] [(.int p0)]))
  refine own_st (fun _ => XS.bipush X0.here hx rfl (hb hby own_ddel_1)) ?_
  show own_End p e below P (s₁.setTop (mkF m 3 #[.val (.int p0)] [(.int (34 : Int32)), (.int p0)]))
  by_cases hc1 : p0 = (34 : Int32)
  · refine own_st (fun _ => XS.icmpYes X0.here hx rfl (pc0 := 3) (pc' := 102) rfl (hb hby own_ddel_3) rfl (teq hc1).1 (by decide) (by decide)) ?_
    show own_End p e below P (s₁.setTop (mkF m 102 #[.val (.int p0)] []))
    refine own_st (fun _ => XS.iconst X0.here hx rfl (hb hby own_ddel_102)) ?_
    show own_End p e below P (s₁.setTop (mkF m 103 #[.val (.int p0)] [(.int (1 : Int32))]))
    refine own_st (fun _ => XS.goto X0.here hx rfl (pc0 := 103) (pc' := 107) rfl (hb hby own_ddel_103) (by decide) (by decide)) ?_
    show own_End p e below P (s₁.setTop (mkF m 107 #[.val (.int p0)] [(.int (1 : Int32))]))
    refine own_retN X0 hx hlk hP (t := .boolean) (by simp) hrt (hb hby own_ddel_107) (by decide) (by decide) ⟨congrArg (fun z => some (Value.int z)) ?_, N0, e0⟩
    exact (show own_fdel p0 = (1 : Int32) from (if_pos hc1).trans (rfl)).symm
  · refine own_st (fun _ => XS.icmpNo X0.here hx rfl (hb hby own_ddel_3) rfl (feq hc1).1) ?_
    show own_End p e below P (s₁.setTop (mkF m 6 #[.val (.int p0)] []))
    refine own_st (fun _ => XS.iloadN X0.here hx rfl (hb hby own_ddel_6) rfl) ?_
    show own_End p e below P (s₁.setTop (mkF m 7 #[.val (.int p0)] [(.int p0)]))
    refine own_st (fun _ => XS.bipush X0.here hx rfl (hb hby own_ddel_7)) ?_
    show own_End p e below P (s₁.setTop (mkF m 9 #[.val (.int p0)] [(.int (40 : Int32)), (.int p0)]))
    by_cases hc2 : p0 = (40 : Int32)
    · refine own_st (fun _ => XS.icmpYes X0.here hx rfl (pc0 := 9) (pc' := 102) rfl (hb hby own_ddel_9) rfl (teq hc2).1 (by decide) (by decide)) ?_
      show own_End p e below P (s₁.setTop (mkF m 102 #[.val (.int p0)] []))
      refine own_st (fun _ => XS.iconst X0.here hx rfl (hb hby own_ddel_102)) ?_
      show own_End p e below P (s₁.setTop (mkF m 103 #[.val (.int p0)] [(.int (1 : Int32))]))
      refine own_st (fun _ => XS.goto X0.here hx rfl (pc0 := 103) (pc' := 107) rfl (hb hby own_ddel_103) (by decide) (by decide)) ?_
      show own_End p e below P (s₁.setTop (mkF m 107 #[.val (.int p0)] [(.int (1 : Int32))]))
      refine own_retN X0 hx hlk hP (t := .boolean) (by simp) hrt (hb hby own_ddel_107) (by decide) (by decide) ⟨congrArg (fun z => some (Value.int z)) ?_, N0, e0⟩
      exact (show own_fdel p0 = (1 : Int32) from (if_neg hc1).trans ((if_pos hc2).trans (rfl))).symm
    · refine own_st (fun _ => XS.icmpNo X0.here hx rfl (hb hby own_ddel_9) rfl (feq hc2).1) ?_
      show own_End p e below P (s₁.setTop (mkF m 12 #[.val (.int p0)] []))
      refine own_st (fun _ => XS.iloadN X0.here hx rfl (hb hby own_ddel_12) rfl) ?_
      show own_End p e below P (s₁.setTop (mkF m 13 #[.val (.int p0)] [(.int p0)]))
      refine own_st (fun _ => XS.bipush X0.here hx rfl (hb hby own_ddel_13)) ?_
      show own_End p e below P (s₁.setTop (mkF m 15 #[.val (.int p0)] [(.int (41 : Int32)), (.int p0)]))
      by_cases hc3 : p0 = (41 : Int32)
      · refine own_st (fun _ => XS.icmpYes X0.here hx rfl (pc0 := 15) (pc' := 102) rfl (hb hby own_ddel_15) rfl (teq hc3).1 (by decide) (by decide)) ?_
        show own_End p e below P (s₁.setTop (mkF m 102 #[.val (.int p0)] []))
        refine own_st (fun _ => XS.iconst X0.here hx rfl (hb hby own_ddel_102)) ?_
        show own_End p e below P (s₁.setTop (mkF m 103 #[.val (.int p0)] [(.int (1 : Int32))]))
        refine own_st (fun _ => XS.goto X0.here hx rfl (pc0 := 103) (pc' := 107) rfl (hb hby own_ddel_103) (by decide) (by decide)) ?_
        show own_End p e below P (s₁.setTop (mkF m 107 #[.val (.int p0)] [(.int (1 : Int32))]))
        refine own_retN X0 hx hlk hP (t := .boolean) (by simp) hrt (hb hby own_ddel_107) (by decide) (by decide) ⟨congrArg (fun z => some (Value.int z)) ?_, N0, e0⟩
        exact (show own_fdel p0 = (1 : Int32) from (if_neg hc1).trans ((if_neg hc2).trans ((if_pos hc3).trans (rfl)))).symm
      · refine own_st (fun _ => XS.icmpNo X0.here hx rfl (hb hby own_ddel_15) rfl (feq hc3).1) ?_
        show own_End p e below P (s₁.setTop (mkF m 18 #[.val (.int p0)] []))
        refine own_st (fun _ => XS.iloadN X0.here hx rfl (hb hby own_ddel_18) rfl) ?_
        show own_End p e below P (s₁.setTop (mkF m 19 #[.val (.int p0)] [(.int p0)]))
        refine own_st (fun _ => XS.bipush X0.here hx rfl (hb hby own_ddel_19)) ?_
        show own_End p e below P (s₁.setTop (mkF m 21 #[.val (.int p0)] [(.int (44 : Int32)), (.int p0)]))
        by_cases hc4 : p0 = (44 : Int32)
        · refine own_st (fun _ => XS.icmpYes X0.here hx rfl (pc0 := 21) (pc' := 102) rfl (hb hby own_ddel_21) rfl (teq hc4).1 (by decide) (by decide)) ?_
          show own_End p e below P (s₁.setTop (mkF m 102 #[.val (.int p0)] []))
          refine own_st (fun _ => XS.iconst X0.here hx rfl (hb hby own_ddel_102)) ?_
          show own_End p e below P (s₁.setTop (mkF m 103 #[.val (.int p0)] [(.int (1 : Int32))]))
          refine own_st (fun _ => XS.goto X0.here hx rfl (pc0 := 103) (pc' := 107) rfl (hb hby own_ddel_103) (by decide) (by decide)) ?_
          show own_End p e below P (s₁.setTop (mkF m 107 #[.val (.int p0)] [(.int (1 : Int32))]))
          refine own_retN X0 hx hlk hP (t := .boolean) (by simp) hrt (hb hby own_ddel_107) (by decide) (by decide) ⟨congrArg (fun z => some (Value.int z)) ?_, N0, e0⟩
          exact (show own_fdel p0 = (1 : Int32) from (if_neg hc1).trans ((if_neg hc2).trans ((if_neg hc3).trans ((if_pos hc4).trans (rfl))))).symm
        · refine own_st (fun _ => XS.icmpNo X0.here hx rfl (hb hby own_ddel_21) rfl (feq hc4).1) ?_
          show own_End p e below P (s₁.setTop (mkF m 24 #[.val (.int p0)] []))
          refine own_st (fun _ => XS.iloadN X0.here hx rfl (hb hby own_ddel_24) rfl) ?_
          show own_End p e below P (s₁.setTop (mkF m 25 #[.val (.int p0)] [(.int p0)]))
          refine own_st (fun _ => XS.bipush X0.here hx rfl (hb hby own_ddel_25)) ?_
          show own_End p e below P (s₁.setTop (mkF m 27 #[.val (.int p0)] [(.int (47 : Int32)), (.int p0)]))
          by_cases hc5 : p0 = (47 : Int32)
          · refine own_st (fun _ => XS.icmpYes X0.here hx rfl (pc0 := 27) (pc' := 102) rfl (hb hby own_ddel_27) rfl (teq hc5).1 (by decide) (by decide)) ?_
            show own_End p e below P (s₁.setTop (mkF m 102 #[.val (.int p0)] []))
            refine own_st (fun _ => XS.iconst X0.here hx rfl (hb hby own_ddel_102)) ?_
            show own_End p e below P (s₁.setTop (mkF m 103 #[.val (.int p0)] [(.int (1 : Int32))]))
            refine own_st (fun _ => XS.goto X0.here hx rfl (pc0 := 103) (pc' := 107) rfl (hb hby own_ddel_103) (by decide) (by decide)) ?_
            show own_End p e below P (s₁.setTop (mkF m 107 #[.val (.int p0)] [(.int (1 : Int32))]))
            refine own_retN X0 hx hlk hP (t := .boolean) (by simp) hrt (hb hby own_ddel_107) (by decide) (by decide) ⟨congrArg (fun z => some (Value.int z)) ?_, N0, e0⟩
            exact (show own_fdel p0 = (1 : Int32) from (if_neg hc1).trans ((if_neg hc2).trans ((if_neg hc3).trans ((if_neg hc4).trans ((if_pos hc5).trans (rfl)))))).symm
          · refine own_st (fun _ => XS.icmpNo X0.here hx rfl (hb hby own_ddel_27) rfl (feq hc5).1) ?_
            show own_End p e below P (s₁.setTop (mkF m 30 #[.val (.int p0)] []))
            refine own_st (fun _ => XS.iloadN X0.here hx rfl (hb hby own_ddel_30) rfl) ?_
            show own_End p e below P (s₁.setTop (mkF m 31 #[.val (.int p0)] [(.int p0)]))
            refine own_st (fun _ => XS.bipush X0.here hx rfl (hb hby own_ddel_31)) ?_
            show own_End p e below P (s₁.setTop (mkF m 33 #[.val (.int p0)] [(.int (58 : Int32)), (.int p0)]))
            by_cases hc6 : p0 = (58 : Int32)
            · refine own_st (fun _ => XS.icmpYes X0.here hx rfl (pc0 := 33) (pc' := 102) rfl (hb hby own_ddel_33) rfl (teq hc6).1 (by decide) (by decide)) ?_
              show own_End p e below P (s₁.setTop (mkF m 102 #[.val (.int p0)] []))
              refine own_st (fun _ => XS.iconst X0.here hx rfl (hb hby own_ddel_102)) ?_
              show own_End p e below P (s₁.setTop (mkF m 103 #[.val (.int p0)] [(.int (1 : Int32))]))
              refine own_st (fun _ => XS.goto X0.here hx rfl (pc0 := 103) (pc' := 107) rfl (hb hby own_ddel_103) (by decide) (by decide)) ?_
              show own_End p e below P (s₁.setTop (mkF m 107 #[.val (.int p0)] [(.int (1 : Int32))]))
              refine own_retN X0 hx hlk hP (t := .boolean) (by simp) hrt (hb hby own_ddel_107) (by decide) (by decide) ⟨congrArg (fun z => some (Value.int z)) ?_, N0, e0⟩
              exact (show own_fdel p0 = (1 : Int32) from (if_neg hc1).trans ((if_neg hc2).trans ((if_neg hc3).trans ((if_neg hc4).trans ((if_neg hc5).trans ((if_pos hc6).trans (rfl))))))).symm
            · refine own_st (fun _ => XS.icmpNo X0.here hx rfl (hb hby own_ddel_33) rfl (feq hc6).1) ?_
              show own_End p e below P (s₁.setTop (mkF m 36 #[.val (.int p0)] []))
              refine own_st (fun _ => XS.iloadN X0.here hx rfl (hb hby own_ddel_36) rfl) ?_
              show own_End p e below P (s₁.setTop (mkF m 37 #[.val (.int p0)] [(.int p0)]))
              refine own_st (fun _ => XS.bipush X0.here hx rfl (hb hby own_ddel_37)) ?_
              show own_End p e below P (s₁.setTop (mkF m 39 #[.val (.int p0)] [(.int (59 : Int32)), (.int p0)]))
              by_cases hc7 : p0 = (59 : Int32)
              · refine own_st (fun _ => XS.icmpYes X0.here hx rfl (pc0 := 39) (pc' := 102) rfl (hb hby own_ddel_39) rfl (teq hc7).1 (by decide) (by decide)) ?_
                show own_End p e below P (s₁.setTop (mkF m 102 #[.val (.int p0)] []))
                refine own_st (fun _ => XS.iconst X0.here hx rfl (hb hby own_ddel_102)) ?_
                show own_End p e below P (s₁.setTop (mkF m 103 #[.val (.int p0)] [(.int (1 : Int32))]))
                refine own_st (fun _ => XS.goto X0.here hx rfl (pc0 := 103) (pc' := 107) rfl (hb hby own_ddel_103) (by decide) (by decide)) ?_
                show own_End p e below P (s₁.setTop (mkF m 107 #[.val (.int p0)] [(.int (1 : Int32))]))
                refine own_retN X0 hx hlk hP (t := .boolean) (by simp) hrt (hb hby own_ddel_107) (by decide) (by decide) ⟨congrArg (fun z => some (Value.int z)) ?_, N0, e0⟩
                exact (show own_fdel p0 = (1 : Int32) from (if_neg hc1).trans ((if_neg hc2).trans ((if_neg hc3).trans ((if_neg hc4).trans ((if_neg hc5).trans ((if_neg hc6).trans ((if_pos hc7).trans (rfl)))))))).symm
              · refine own_st (fun _ => XS.icmpNo X0.here hx rfl (hb hby own_ddel_39) rfl (feq hc7).1) ?_
                show own_End p e below P (s₁.setTop (mkF m 42 #[.val (.int p0)] []))
                refine own_st (fun _ => XS.iloadN X0.here hx rfl (hb hby own_ddel_42) rfl) ?_
                show own_End p e below P (s₁.setTop (mkF m 43 #[.val (.int p0)] [(.int p0)]))
                refine own_st (fun _ => XS.bipush X0.here hx rfl (hb hby own_ddel_43)) ?_
                show own_End p e below P (s₁.setTop (mkF m 45 #[.val (.int p0)] [(.int (60 : Int32)), (.int p0)]))
                by_cases hc8 : p0 = (60 : Int32)
                · refine own_st (fun _ => XS.icmpYes X0.here hx rfl (pc0 := 45) (pc' := 102) rfl (hb hby own_ddel_45) rfl (teq hc8).1 (by decide) (by decide)) ?_
                  show own_End p e below P (s₁.setTop (mkF m 102 #[.val (.int p0)] []))
                  refine own_st (fun _ => XS.iconst X0.here hx rfl (hb hby own_ddel_102)) ?_
                  show own_End p e below P (s₁.setTop (mkF m 103 #[.val (.int p0)] [(.int (1 : Int32))]))
                  refine own_st (fun _ => XS.goto X0.here hx rfl (pc0 := 103) (pc' := 107) rfl (hb hby own_ddel_103) (by decide) (by decide)) ?_
                  show own_End p e below P (s₁.setTop (mkF m 107 #[.val (.int p0)] [(.int (1 : Int32))]))
                  refine own_retN X0 hx hlk hP (t := .boolean) (by simp) hrt (hb hby own_ddel_107) (by decide) (by decide) ⟨congrArg (fun z => some (Value.int z)) ?_, N0, e0⟩
                  exact (show own_fdel p0 = (1 : Int32) from (if_neg hc1).trans ((if_neg hc2).trans ((if_neg hc3).trans ((if_neg hc4).trans ((if_neg hc5).trans ((if_neg hc6).trans ((if_neg hc7).trans ((if_pos hc8).trans (rfl))))))))).symm
                · refine own_st (fun _ => XS.icmpNo X0.here hx rfl (hb hby own_ddel_45) rfl (feq hc8).1) ?_
                  show own_End p e below P (s₁.setTop (mkF m 48 #[.val (.int p0)] []))
                  refine own_st (fun _ => XS.iloadN X0.here hx rfl (hb hby own_ddel_48) rfl) ?_
                  show own_End p e below P (s₁.setTop (mkF m 49 #[.val (.int p0)] [(.int p0)]))
                  refine own_st (fun _ => XS.bipush X0.here hx rfl (hb hby own_ddel_49)) ?_
                  show own_End p e below P (s₁.setTop (mkF m 51 #[.val (.int p0)] [(.int (61 : Int32)), (.int p0)]))
                  by_cases hc9 : p0 = (61 : Int32)
                  · refine own_st (fun _ => XS.icmpYes X0.here hx rfl (pc0 := 51) (pc' := 102) rfl (hb hby own_ddel_51) rfl (teq hc9).1 (by decide) (by decide)) ?_
                    show own_End p e below P (s₁.setTop (mkF m 102 #[.val (.int p0)] []))
                    refine own_st (fun _ => XS.iconst X0.here hx rfl (hb hby own_ddel_102)) ?_
                    show own_End p e below P (s₁.setTop (mkF m 103 #[.val (.int p0)] [(.int (1 : Int32))]))
                    refine own_st (fun _ => XS.goto X0.here hx rfl (pc0 := 103) (pc' := 107) rfl (hb hby own_ddel_103) (by decide) (by decide)) ?_
                    show own_End p e below P (s₁.setTop (mkF m 107 #[.val (.int p0)] [(.int (1 : Int32))]))
                    refine own_retN X0 hx hlk hP (t := .boolean) (by simp) hrt (hb hby own_ddel_107) (by decide) (by decide) ⟨congrArg (fun z => some (Value.int z)) ?_, N0, e0⟩
                    exact (show own_fdel p0 = (1 : Int32) from (if_neg hc1).trans ((if_neg hc2).trans ((if_neg hc3).trans ((if_neg hc4).trans ((if_neg hc5).trans ((if_neg hc6).trans ((if_neg hc7).trans ((if_neg hc8).trans ((if_pos hc9).trans (rfl)))))))))).symm
                  · refine own_st (fun _ => XS.icmpNo X0.here hx rfl (hb hby own_ddel_51) rfl (feq hc9).1) ?_
                    show own_End p e below P (s₁.setTop (mkF m 54 #[.val (.int p0)] []))
                    refine own_st (fun _ => XS.iloadN X0.here hx rfl (hb hby own_ddel_54) rfl) ?_
                    show own_End p e below P (s₁.setTop (mkF m 55 #[.val (.int p0)] [(.int p0)]))
                    refine own_st (fun _ => XS.bipush X0.here hx rfl (hb hby own_ddel_55)) ?_
                    show own_End p e below P (s₁.setTop (mkF m 57 #[.val (.int p0)] [(.int (62 : Int32)), (.int p0)]))
                    by_cases hc10 : p0 = (62 : Int32)
                    · refine own_st (fun _ => XS.icmpYes X0.here hx rfl (pc0 := 57) (pc' := 102) rfl (hb hby own_ddel_57) rfl (teq hc10).1 (by decide) (by decide)) ?_
                      show own_End p e below P (s₁.setTop (mkF m 102 #[.val (.int p0)] []))
                      refine own_st (fun _ => XS.iconst X0.here hx rfl (hb hby own_ddel_102)) ?_
                      show own_End p e below P (s₁.setTop (mkF m 103 #[.val (.int p0)] [(.int (1 : Int32))]))
                      refine own_st (fun _ => XS.goto X0.here hx rfl (pc0 := 103) (pc' := 107) rfl (hb hby own_ddel_103) (by decide) (by decide)) ?_
                      show own_End p e below P (s₁.setTop (mkF m 107 #[.val (.int p0)] [(.int (1 : Int32))]))
                      refine own_retN X0 hx hlk hP (t := .boolean) (by simp) hrt (hb hby own_ddel_107) (by decide) (by decide) ⟨congrArg (fun z => some (Value.int z)) ?_, N0, e0⟩
                      exact (show own_fdel p0 = (1 : Int32) from (if_neg hc1).trans ((if_neg hc2).trans ((if_neg hc3).trans ((if_neg hc4).trans ((if_neg hc5).trans ((if_neg hc6).trans ((if_neg hc7).trans ((if_neg hc8).trans ((if_neg hc9).trans ((if_pos hc10).trans (rfl))))))))))).symm
                    · refine own_st (fun _ => XS.icmpNo X0.here hx rfl (hb hby own_ddel_57) rfl (feq hc10).1) ?_
                      show own_End p e below P (s₁.setTop (mkF m 60 #[.val (.int p0)] []))
                      refine own_st (fun _ => XS.iloadN X0.here hx rfl (hb hby own_ddel_60) rfl) ?_
                      show own_End p e below P (s₁.setTop (mkF m 61 #[.val (.int p0)] [(.int p0)]))
                      refine own_st (fun _ => XS.bipush X0.here hx rfl (hb hby own_ddel_61)) ?_
                      show own_End p e below P (s₁.setTop (mkF m 63 #[.val (.int p0)] [(.int (63 : Int32)), (.int p0)]))
                      by_cases hc11 : p0 = (63 : Int32)
                      · refine own_st (fun _ => XS.icmpYes X0.here hx rfl (pc0 := 63) (pc' := 102) rfl (hb hby own_ddel_63) rfl (teq hc11).1 (by decide) (by decide)) ?_
                        show own_End p e below P (s₁.setTop (mkF m 102 #[.val (.int p0)] []))
                        refine own_st (fun _ => XS.iconst X0.here hx rfl (hb hby own_ddel_102)) ?_
                        show own_End p e below P (s₁.setTop (mkF m 103 #[.val (.int p0)] [(.int (1 : Int32))]))
                        refine own_st (fun _ => XS.goto X0.here hx rfl (pc0 := 103) (pc' := 107) rfl (hb hby own_ddel_103) (by decide) (by decide)) ?_
                        show own_End p e below P (s₁.setTop (mkF m 107 #[.val (.int p0)] [(.int (1 : Int32))]))
                        refine own_retN X0 hx hlk hP (t := .boolean) (by simp) hrt (hb hby own_ddel_107) (by decide) (by decide) ⟨congrArg (fun z => some (Value.int z)) ?_, N0, e0⟩
                        exact (show own_fdel p0 = (1 : Int32) from (if_neg hc1).trans ((if_neg hc2).trans ((if_neg hc3).trans ((if_neg hc4).trans ((if_neg hc5).trans ((if_neg hc6).trans ((if_neg hc7).trans ((if_neg hc8).trans ((if_neg hc9).trans ((if_neg hc10).trans ((if_pos hc11).trans (rfl)))))))))))).symm
                      · refine own_st (fun _ => XS.icmpNo X0.here hx rfl (hb hby own_ddel_63) rfl (feq hc11).1) ?_
                        show own_End p e below P (s₁.setTop (mkF m 66 #[.val (.int p0)] []))
                        refine own_st (fun _ => XS.iloadN X0.here hx rfl (hb hby own_ddel_66) rfl) ?_
                        show own_End p e below P (s₁.setTop (mkF m 67 #[.val (.int p0)] [(.int p0)]))
                        refine own_st (fun _ => XS.bipush X0.here hx rfl (hb hby own_ddel_67)) ?_
                        show own_End p e below P (s₁.setTop (mkF m 69 #[.val (.int p0)] [(.int (64 : Int32)), (.int p0)]))
                        by_cases hc12 : p0 = (64 : Int32)
                        · refine own_st (fun _ => XS.icmpYes X0.here hx rfl (pc0 := 69) (pc' := 102) rfl (hb hby own_ddel_69) rfl (teq hc12).1 (by decide) (by decide)) ?_
                          show own_End p e below P (s₁.setTop (mkF m 102 #[.val (.int p0)] []))
                          refine own_st (fun _ => XS.iconst X0.here hx rfl (hb hby own_ddel_102)) ?_
                          show own_End p e below P (s₁.setTop (mkF m 103 #[.val (.int p0)] [(.int (1 : Int32))]))
                          refine own_st (fun _ => XS.goto X0.here hx rfl (pc0 := 103) (pc' := 107) rfl (hb hby own_ddel_103) (by decide) (by decide)) ?_
                          show own_End p e below P (s₁.setTop (mkF m 107 #[.val (.int p0)] [(.int (1 : Int32))]))
                          refine own_retN X0 hx hlk hP (t := .boolean) (by simp) hrt (hb hby own_ddel_107) (by decide) (by decide) ⟨congrArg (fun z => some (Value.int z)) ?_, N0, e0⟩
                          exact (show own_fdel p0 = (1 : Int32) from (if_neg hc1).trans ((if_neg hc2).trans ((if_neg hc3).trans ((if_neg hc4).trans ((if_neg hc5).trans ((if_neg hc6).trans ((if_neg hc7).trans ((if_neg hc8).trans ((if_neg hc9).trans ((if_neg hc10).trans ((if_neg hc11).trans ((if_pos hc12).trans (rfl))))))))))))).symm
                        · refine own_st (fun _ => XS.icmpNo X0.here hx rfl (hb hby own_ddel_69) rfl (feq hc12).1) ?_
                          show own_End p e below P (s₁.setTop (mkF m 72 #[.val (.int p0)] []))
                          refine own_st (fun _ => XS.iloadN X0.here hx rfl (hb hby own_ddel_72) rfl) ?_
                          show own_End p e below P (s₁.setTop (mkF m 73 #[.val (.int p0)] [(.int p0)]))
                          refine own_st (fun _ => XS.bipush X0.here hx rfl (hb hby own_ddel_73)) ?_
                          show own_End p e below P (s₁.setTop (mkF m 75 #[.val (.int p0)] [(.int (91 : Int32)), (.int p0)]))
                          by_cases hc13 : p0 = (91 : Int32)
                          · refine own_st (fun _ => XS.icmpYes X0.here hx rfl (pc0 := 75) (pc' := 102) rfl (hb hby own_ddel_75) rfl (teq hc13).1 (by decide) (by decide)) ?_
                            show own_End p e below P (s₁.setTop (mkF m 102 #[.val (.int p0)] []))
                            refine own_st (fun _ => XS.iconst X0.here hx rfl (hb hby own_ddel_102)) ?_
                            show own_End p e below P (s₁.setTop (mkF m 103 #[.val (.int p0)] [(.int (1 : Int32))]))
                            refine own_st (fun _ => XS.goto X0.here hx rfl (pc0 := 103) (pc' := 107) rfl (hb hby own_ddel_103) (by decide) (by decide)) ?_
                            show own_End p e below P (s₁.setTop (mkF m 107 #[.val (.int p0)] [(.int (1 : Int32))]))
                            refine own_retN X0 hx hlk hP (t := .boolean) (by simp) hrt (hb hby own_ddel_107) (by decide) (by decide) ⟨congrArg (fun z => some (Value.int z)) ?_, N0, e0⟩
                            exact (show own_fdel p0 = (1 : Int32) from (if_neg hc1).trans ((if_neg hc2).trans ((if_neg hc3).trans ((if_neg hc4).trans ((if_neg hc5).trans ((if_neg hc6).trans ((if_neg hc7).trans ((if_neg hc8).trans ((if_neg hc9).trans ((if_neg hc10).trans ((if_neg hc11).trans ((if_neg hc12).trans ((if_pos hc13).trans (rfl)))))))))))))).symm
                          · refine own_st (fun _ => XS.icmpNo X0.here hx rfl (hb hby own_ddel_75) rfl (feq hc13).1) ?_
                            show own_End p e below P (s₁.setTop (mkF m 78 #[.val (.int p0)] []))
                            refine own_st (fun _ => XS.iloadN X0.here hx rfl (hb hby own_ddel_78) rfl) ?_
                            show own_End p e below P (s₁.setTop (mkF m 79 #[.val (.int p0)] [(.int p0)]))
                            refine own_st (fun _ => XS.bipush X0.here hx rfl (hb hby own_ddel_79)) ?_
                            show own_End p e below P (s₁.setTop (mkF m 81 #[.val (.int p0)] [(.int (92 : Int32)), (.int p0)]))
                            by_cases hc14 : p0 = (92 : Int32)
                            · refine own_st (fun _ => XS.icmpYes X0.here hx rfl (pc0 := 81) (pc' := 102) rfl (hb hby own_ddel_81) rfl (teq hc14).1 (by decide) (by decide)) ?_
                              show own_End p e below P (s₁.setTop (mkF m 102 #[.val (.int p0)] []))
                              refine own_st (fun _ => XS.iconst X0.here hx rfl (hb hby own_ddel_102)) ?_
                              show own_End p e below P (s₁.setTop (mkF m 103 #[.val (.int p0)] [(.int (1 : Int32))]))
                              refine own_st (fun _ => XS.goto X0.here hx rfl (pc0 := 103) (pc' := 107) rfl (hb hby own_ddel_103) (by decide) (by decide)) ?_
                              show own_End p e below P (s₁.setTop (mkF m 107 #[.val (.int p0)] [(.int (1 : Int32))]))
                              refine own_retN X0 hx hlk hP (t := .boolean) (by simp) hrt (hb hby own_ddel_107) (by decide) (by decide) ⟨congrArg (fun z => some (Value.int z)) ?_, N0, e0⟩
                              exact (show own_fdel p0 = (1 : Int32) from (if_neg hc1).trans ((if_neg hc2).trans ((if_neg hc3).trans ((if_neg hc4).trans ((if_neg hc5).trans ((if_neg hc6).trans ((if_neg hc7).trans ((if_neg hc8).trans ((if_neg hc9).trans ((if_neg hc10).trans ((if_neg hc11).trans ((if_neg hc12).trans ((if_neg hc13).trans ((if_pos hc14).trans (rfl))))))))))))))).symm
                            · refine own_st (fun _ => XS.icmpNo X0.here hx rfl (hb hby own_ddel_81) rfl (feq hc14).1) ?_
                              show own_End p e below P (s₁.setTop (mkF m 84 #[.val (.int p0)] []))
                              refine own_st (fun _ => XS.iloadN X0.here hx rfl (hb hby own_ddel_84) rfl) ?_
                              show own_End p e below P (s₁.setTop (mkF m 85 #[.val (.int p0)] [(.int p0)]))
                              refine own_st (fun _ => XS.bipush X0.here hx rfl (hb hby own_ddel_85)) ?_
                              show own_End p e below P (s₁.setTop (mkF m 87 #[.val (.int p0)] [(.int (93 : Int32)), (.int p0)]))
                              by_cases hc15 : p0 = (93 : Int32)
                              · refine own_st (fun _ => XS.icmpYes X0.here hx rfl (pc0 := 87) (pc' := 102) rfl (hb hby own_ddel_87) rfl (teq hc15).1 (by decide) (by decide)) ?_
                                show own_End p e below P (s₁.setTop (mkF m 102 #[.val (.int p0)] []))
                                refine own_st (fun _ => XS.iconst X0.here hx rfl (hb hby own_ddel_102)) ?_
                                show own_End p e below P (s₁.setTop (mkF m 103 #[.val (.int p0)] [(.int (1 : Int32))]))
                                refine own_st (fun _ => XS.goto X0.here hx rfl (pc0 := 103) (pc' := 107) rfl (hb hby own_ddel_103) (by decide) (by decide)) ?_
                                show own_End p e below P (s₁.setTop (mkF m 107 #[.val (.int p0)] [(.int (1 : Int32))]))
                                refine own_retN X0 hx hlk hP (t := .boolean) (by simp) hrt (hb hby own_ddel_107) (by decide) (by decide) ⟨congrArg (fun z => some (Value.int z)) ?_, N0, e0⟩
                                exact (show own_fdel p0 = (1 : Int32) from (if_neg hc1).trans ((if_neg hc2).trans ((if_neg hc3).trans ((if_neg hc4).trans ((if_neg hc5).trans ((if_neg hc6).trans ((if_neg hc7).trans ((if_neg hc8).trans ((if_neg hc9).trans ((if_neg hc10).trans ((if_neg hc11).trans ((if_neg hc12).trans ((if_neg hc13).trans ((if_neg hc14).trans ((if_pos hc15).trans (rfl)))))))))))))))).symm
                              · refine own_st (fun _ => XS.icmpNo X0.here hx rfl (hb hby own_ddel_87) rfl (feq hc15).1) ?_
                                show own_End p e below P (s₁.setTop (mkF m 90 #[.val (.int p0)] []))
                                refine own_st (fun _ => XS.iloadN X0.here hx rfl (hb hby own_ddel_90) rfl) ?_
                                show own_End p e below P (s₁.setTop (mkF m 91 #[.val (.int p0)] [(.int p0)]))
                                refine own_st (fun _ => XS.bipush X0.here hx rfl (hb hby own_ddel_91)) ?_
                                show own_End p e below P (s₁.setTop (mkF m 93 #[.val (.int p0)] [(.int (123 : Int32)), (.int p0)]))
                                by_cases hc16 : p0 = (123 : Int32)
                                · refine own_st (fun _ => XS.icmpYes X0.here hx rfl (pc0 := 93) (pc' := 102) rfl (hb hby own_ddel_93) rfl (teq hc16).1 (by decide) (by decide)) ?_
                                  show own_End p e below P (s₁.setTop (mkF m 102 #[.val (.int p0)] []))
                                  refine own_st (fun _ => XS.iconst X0.here hx rfl (hb hby own_ddel_102)) ?_
                                  show own_End p e below P (s₁.setTop (mkF m 103 #[.val (.int p0)] [(.int (1 : Int32))]))
                                  refine own_st (fun _ => XS.goto X0.here hx rfl (pc0 := 103) (pc' := 107) rfl (hb hby own_ddel_103) (by decide) (by decide)) ?_
                                  show own_End p e below P (s₁.setTop (mkF m 107 #[.val (.int p0)] [(.int (1 : Int32))]))
                                  refine own_retN X0 hx hlk hP (t := .boolean) (by simp) hrt (hb hby own_ddel_107) (by decide) (by decide) ⟨congrArg (fun z => some (Value.int z)) ?_, N0, e0⟩
                                  exact (show own_fdel p0 = (1 : Int32) from (if_neg hc1).trans ((if_neg hc2).trans ((if_neg hc3).trans ((if_neg hc4).trans ((if_neg hc5).trans ((if_neg hc6).trans ((if_neg hc7).trans ((if_neg hc8).trans ((if_neg hc9).trans ((if_neg hc10).trans ((if_neg hc11).trans ((if_neg hc12).trans ((if_neg hc13).trans ((if_neg hc14).trans ((if_neg hc15).trans ((if_pos hc16).trans (rfl))))))))))))))))).symm
                                · refine own_st (fun _ => XS.icmpNo X0.here hx rfl (hb hby own_ddel_93) rfl (feq hc16).1) ?_
                                  show own_End p e below P (s₁.setTop (mkF m 96 #[.val (.int p0)] []))
                                  refine own_st (fun _ => XS.iloadN X0.here hx rfl (hb hby own_ddel_96) rfl) ?_
                                  show own_End p e below P (s₁.setTop (mkF m 97 #[.val (.int p0)] [(.int p0)]))
                                  refine own_st (fun _ => XS.bipush X0.here hx rfl (hb hby own_ddel_97)) ?_
                                  show own_End p e below P (s₁.setTop (mkF m 99 #[.val (.int p0)] [(.int (125 : Int32)), (.int p0)]))
                                  by_cases hc17 : p0 = (125 : Int32)
                                  · refine own_st (fun _ => XS.icmpNo X0.here hx rfl (hb hby own_ddel_99) rfl (teq hc17).2) ?_
                                    show own_End p e below P (s₁.setTop (mkF m 102 #[.val (.int p0)] []))
                                    refine own_st (fun _ => XS.iconst X0.here hx rfl (hb hby own_ddel_102)) ?_
                                    show own_End p e below P (s₁.setTop (mkF m 103 #[.val (.int p0)] [(.int (1 : Int32))]))
                                    refine own_st (fun _ => XS.goto X0.here hx rfl (pc0 := 103) (pc' := 107) rfl (hb hby own_ddel_103) (by decide) (by decide)) ?_
                                    show own_End p e below P (s₁.setTop (mkF m 107 #[.val (.int p0)] [(.int (1 : Int32))]))
                                    refine own_retN X0 hx hlk hP (t := .boolean) (by simp) hrt (hb hby own_ddel_107) (by decide) (by decide) ⟨congrArg (fun z => some (Value.int z)) ?_, N0, e0⟩
                                    exact (show own_fdel p0 = (1 : Int32) from (if_neg hc1).trans ((if_neg hc2).trans ((if_neg hc3).trans ((if_neg hc4).trans ((if_neg hc5).trans ((if_neg hc6).trans ((if_neg hc7).trans ((if_neg hc8).trans ((if_neg hc9).trans ((if_neg hc10).trans ((if_neg hc11).trans ((if_neg hc12).trans ((if_neg hc13).trans ((if_neg hc14).trans ((if_neg hc15).trans ((if_neg hc16).trans ((if_pos hc17).trans (rfl)))))))))))))))))).symm
                                  · refine own_st (fun _ => XS.icmpYes X0.here hx rfl (pc0 := 99) (pc' := 106) rfl (hb hby own_ddel_99) rfl (feq hc17).2 (by decide) (by decide)) ?_
                                    show own_End p e below P (s₁.setTop (mkF m 106 #[.val (.int p0)] []))
                                    refine own_st (fun _ => XS.iconst X0.here hx rfl (hb hby own_ddel_106)) ?_
                                    show own_End p e below P (s₁.setTop (mkF m 107 #[.val (.int p0)] [(.int (0 : Int32))]))
                                    refine own_retN X0 hx hlk hP (t := .boolean) (by simp) hrt (hb hby own_ddel_107) (by decide) (by decide) ⟨congrArg (fun z => some (Value.int z)) ?_, N0, e0⟩
                                    exact (show own_fdel p0 = (0 : Int32) from (if_neg hc1).trans ((if_neg hc2).trans ((if_neg hc3).trans ((if_neg hc4).trans ((if_neg hc5).trans ((if_neg hc6).trans ((if_neg hc7).trans ((if_neg hc8).trans ((if_neg hc9).trans ((if_neg hc10).trans ((if_neg hc11).trans ((if_neg hc12).trans ((if_neg hc13).trans ((if_neg hc14).trans ((if_neg hc15).trans ((if_neg hc16).trans ((if_neg hc17).trans (rfl)))))))))))))))))).symm
theorem own_dexp_0 : decode method_3_code 0 = .ok (.iload_n 0, 1) := by decide +kernel
theorem own_dexp_1 : decode method_3_code 1 = .ok (.bipush 33, 2) := by decide +kernel
theorem own_dexp_3 : decode method_3_code 3 = .ok (.if_icmp .lt 9, 3) := by decide +kernel
theorem own_dexp_12 : decode method_3_code 12 = .ok (.iconst 0, 1) := by decide +kernel
theorem own_dexp_13 : decode method_3_code 13 = .ok (.ireturn, 1) := by decide +kernel
theorem own_dexp_6 : decode method_3_code 6 = .ok (.iload_n 0, 1) := by decide +kernel
theorem own_dexp_7 : decode method_3_code 7 = .ok (.bipush 126, 2) := by decide +kernel
theorem own_dexp_9 : decode method_3_code 9 = .ok (.if_icmp .le 5, 3) := by decide +kernel
theorem own_dexp_14 : decode method_3_code 14 = .ok (.iload_n 0, 1) := by decide +kernel
theorem own_dexp_15 : decode method_3_code 15 = .ok (.invokestatic 7, 3) := by decide +kernel
theorem own_pd_C_Z_238 : parseMethodDescriptor "(C)Z" = some ⟨[.char], some .boolean⟩ := by decide +kernel
theorem own_dexp_18 : decode method_3_code 18 = .ok (.ifCond .ne 7, 3) := by decide +kernel
theorem own_dexp_21 : decode method_3_code 21 = .ok (.iconst 1, 1) := by decide +kernel
theorem own_dexp_22 : decode method_3_code 22 = .ok (.goto 4, 3) := by decide +kernel
theorem own_dexp_26 : decode method_3_code 26 = .ok (.ireturn, 1) := by decide +kernel
theorem own_dexp_25 : decode method_3_code 25 = .ok (.iconst 0, 1) := by decide +kernel
theorem own_efexp (m : MethodId) (p0 : Int32) : entryFrame m #[(.int p0)] 1 = mkF m 0 #[.val (.int p0)] [] := by first | (simp [entryFrame, mkF, argsToLocals, Value.category]; done) | rfl
def own_fexp (p0 : Int32) : Int32 := (if p0 < (33 : Int32) then (0 : Int32) else (if (126 : Int32) < p0 then (0 : Int32) else (if (own_fdel p0) = (0 : Int32) then (1 : Int32) else (0 : Int32))))
set_option maxRecDepth 65536 in
set_option maxHeartbeats 40000000 in
theorem own_mexp (l : Launch) (Z : State) (a0 : Array Value) (hw : ∀ d ∈ tables_1, d.before a0 Z = true) (ws : List Jvm.Cond) (p0 : Int32)  (h0 : Heap) (n0 : Nat) (Z0 : n0 ≤ h0.size)  :
    own_Met l Z (⟨"com/example/holdfast/holdfast/internal/HttpSyntaxIsTokenCharPinLaw", "expected", "(C)Z"⟩ : MethodName) method_3_code 1 (some .boolean) ws ({ frames := 1, cells := 0, slots := 0, locals := 12 } : Room) #[(.int p0)] h0 (fun (v : Option Value) (h : Heap) (L : List Loc) => v = some (.int (own_fexp p0)) ∧ Fr n0 L ∧ h = h0) := by
  refine own_enter (plainFor_of_name own_pn_com_example_holdfast_holdfast_internal_HttpSyntaxIsTokenCharPinLaw) ?_
  intro p e s m below meth c s₁ P hx hby hml hrt hlk hown hnm hZ X0 e0 hP
  have N0 := Fr.nil n0
  have K0 := Keep.refl h0 []
  have hml' : c.maxLocals = 1 := hml
  refine own_cast (own_efexp m p0) ?_
  show own_End p e below P (s₁.setTop (mkF m 0 #[.val (.int p0)] []))
  refine own_st (fun _ => XS.iloadN X0.here hx rfl (hb hby own_dexp_0) rfl) ?_
  show own_End p e below P (s₁.setTop (mkF m 1 #[.val (.int p0)] [(.int p0)]))
  refine own_st (fun _ => XS.bipush X0.here hx rfl (hb hby own_dexp_1)) ?_
  show own_End p e below P (s₁.setTop (mkF m 3 #[.val (.int p0)] [(.int (33 : Int32)), (.int p0)]))
  by_cases hc1 : p0 < (33 : Int32)
  · refine own_st (fun _ => XS.icmpYes X0.here hx rfl (pc0 := 3) (pc' := 12) rfl (hb hby own_dexp_3) rfl (tlt hc1).1 (by decide) (by decide)) ?_
    show own_End p e below P (s₁.setTop (mkF m 12 #[.val (.int p0)] []))
    refine own_st (fun _ => XS.iconst X0.here hx rfl (hb hby own_dexp_12)) ?_
    show own_End p e below P (s₁.setTop (mkF m 13 #[.val (.int p0)] [(.int (0 : Int32))]))
    refine own_retN X0 hx hlk hP (t := .boolean) (by simp) hrt (hb hby own_dexp_13) (by decide) (by decide) ⟨congrArg (fun z => some (Value.int z)) ?_, N0, e0⟩
    exact (show own_fexp p0 = (0 : Int32) from (if_pos hc1).trans (rfl)).symm
  · refine own_st (fun _ => XS.icmpNo X0.here hx rfl (hb hby own_dexp_3) rfl (flt hc1).1) ?_
    show own_End p e below P (s₁.setTop (mkF m 6 #[.val (.int p0)] []))
    refine own_st (fun _ => XS.iloadN X0.here hx rfl (hb hby own_dexp_6) rfl) ?_
    show own_End p e below P (s₁.setTop (mkF m 7 #[.val (.int p0)] [(.int p0)]))
    refine own_st (fun _ => XS.bipush X0.here hx rfl (hb hby own_dexp_7)) ?_
    show own_End p e below P (s₁.setTop (mkF m 9 #[.val (.int p0)] [(.int (126 : Int32)), (.int p0)]))
    by_cases hc2 : (126 : Int32) < p0
    · refine own_st (fun _ => XS.icmpNo X0.here hx rfl (hb hby own_dexp_9) rfl (tlt hc2).2.2.2) ?_
      show own_End p e below P (s₁.setTop (mkF m 12 #[.val (.int p0)] []))
      refine own_st (fun _ => XS.iconst X0.here hx rfl (hb hby own_dexp_12)) ?_
      show own_End p e below P (s₁.setTop (mkF m 13 #[.val (.int p0)] [(.int (0 : Int32))]))
      refine own_retN X0 hx hlk hP (t := .boolean) (by simp) hrt (hb hby own_dexp_13) (by decide) (by decide) ⟨congrArg (fun z => some (Value.int z)) ?_, N0, e0⟩
      exact (show own_fexp p0 = (0 : Int32) from (if_neg hc1).trans ((if_pos hc2).trans (rfl))).symm
    · refine own_st (fun _ => XS.icmpYes X0.here hx rfl (pc0 := 9) (pc' := 14) rfl (hb hby own_dexp_9) rfl (flt hc2).2.2.2 (by decide) (by decide)) ?_
      show own_End p e below P (s₁.setTop (mkF m 14 #[.val (.int p0)] []))
      refine own_st (fun _ => XS.iloadN X0.here hx rfl (hb hby own_dexp_14) rfl) ?_
      show own_End p e below P (s₁.setTop (mkF m 15 #[.val (.int p0)] [(.int p0)]))
      refine own_callS X0 hx hZ (y := (⟨"com/example/holdfast/holdfast/internal/HttpSyntaxIsTokenCharPinLaw", "isDelimiter", "(C)Z"⟩ : MethodName)) hown (hw _ (List.mem_of_getElem? (i := 61) rfl)) (hw _ (List.mem_of_getElem? (i := 62) rfl)) (hw _ (List.mem_of_getElem? (i := 59) rfl)) (hw _ (List.mem_of_getElem? (i := 63) rfl)) (by decide) (own_mdel l Z a0 hw [] p0  h0 n0 (Nat.le_trans Z0 K0.1) ) 0 (by decide) (by decide) e0 (by decide) (by decide) (g := (mkF m 15 #[.val (.int p0)] [(.int p0)])) rfl (by rw [hml']; rfl) (argsL := [(.int p0)]) (rest := []) rfl (lenOf own_pd_C_Z_238 rfl) rfl (by show 2 * 0 + _ ≤ _; exact Nat.le_of_eq rfl) (hb hby own_dexp_15) (fun r3 T3 L3 X3 hQ3 => ?_)
      obtain ⟨rfl, Nq3, eq3⟩ := hQ3
      have N3 := Fr.app N0 Nq3
      show own_End p e below P (T3.setTop (mkF m 18 #[.val (.int p0)] [(.int (own_fdel p0))]))
      by_cases hc4 : (own_fdel p0) = (0 : Int32)
      · refine own_st (fun _ => XS.ifNo X3.here hx rfl (hb hby own_dexp_18) rfl ((if0 _ _).trans (teq hc4).2)) ?_
        show own_End p e below P (T3.setTop (mkF m 21 #[.val (.int p0)] []))
        refine own_st (fun _ => XS.iconst X3.here hx rfl (hb hby own_dexp_21)) ?_
        show own_End p e below P (T3.setTop (mkF m 22 #[.val (.int p0)] [(.int (1 : Int32))]))
        refine own_st (fun _ => XS.goto X3.here hx rfl (pc0 := 22) (pc' := 26) rfl (hb hby own_dexp_22) (by decide) (by decide)) ?_
        show own_End p e below P (T3.setTop (mkF m 26 #[.val (.int p0)] [(.int (1 : Int32))]))
        refine own_retN X3 hx hlk hP (t := .boolean) (by simp) hrt (hb hby own_dexp_26) (by decide) (by decide) ⟨congrArg (fun z => some (Value.int z)) ?_, N3, eq3⟩
        exact (show own_fexp p0 = (1 : Int32) from (if_neg hc1).trans ((if_neg hc2).trans ((if_pos hc4).trans (rfl)))).symm
      · refine own_st (fun _ => XS.ifYes X3.here hx rfl (pc0 := 18) (pc' := 25) rfl (hb hby own_dexp_18) rfl ((if0 _ _).trans (feq hc4).2) (by decide) (by decide)) ?_
        show own_End p e below P (T3.setTop (mkF m 25 #[.val (.int p0)] []))
        refine own_st (fun _ => XS.iconst X3.here hx rfl (hb hby own_dexp_25)) ?_
        show own_End p e below P (T3.setTop (mkF m 26 #[.val (.int p0)] [(.int (0 : Int32))]))
        refine own_retN X3 hx hlk hP (t := .boolean) (by simp) hrt (hb hby own_dexp_26) (by decide) (by decide) ⟨congrArg (fun z => some (Value.int z)) ?_, N3, eq3⟩
        exact (show own_fexp p0 = (0 : Int32) from (if_neg hc1).trans ((if_neg hc2).trans ((if_neg hc4).trans (rfl)))).symm
theorem own_char (p : Int32) : ∃ n : Nat, n < 65536 ∧ (p.toUInt32.toUInt16.toUInt32.toInt32) = Int32.ofNat n := by
  refine ⟨p.toUInt32.toUInt16.toNat, UInt16.toNat_lt _, ?_⟩
  rw [← Int32.toBitVec_inj]
  apply BitVec.eq_of_toNat_eq
  simp
  show p.toBitVec.toNat % 65536 = p.toBitVec.toNat % 65536 % 4294967296
  omega
def own_tokf (p : Int32) : Int32 := own_ftok p 1
theorem own_tok_s (p s : Int32) : own_ftok p s = own_tokf p := rfl
theorem own_low : ∀ n : Fin 256, own_tokf (Int32.ofNat n.val) = own_fexp (Int32.ofNat n.val) := by decide +kernel
theorem own_lt_n {n : Nat} (h : 256 ≤ n) (h2 : n < 65536) (k : Int32) (hk : k.toInt < 256) : ¬ (Int32.ofNat n < k) ∧ (k < Int32.ofNat n) := by
  rw [Int32.lt_iff_toInt_lt, Int32.lt_iff_toInt_lt, Int32.toInt_ofNat_small (by omega)]; omega
theorem own_high {n : Nat} (h : 256 ≤ n) (h2 : n < 65536) : own_tokf (Int32.ofNat n) = own_fexp (Int32.ofNat n) := by
  have q := own_lt_n h h2
  have e1 : own_fexp (Int32.ofNat n) = 0 := by
    show (if _ < (33 : Int32) then (0 : Int32) else _) = _
    rw [if_neg (q 33 (by decide)).1, if_pos (q 126 (by decide)).2]
  have e2 : own_fcan (Int32.ofNat n) = 0 := by
    show (if _ < (0 : Int32) then (0 : Int32) else _) = _
    rw [if_neg (q 0 (by decide)).1, if_pos (q 255 (by decide)).2]
  have e3 : own_fix1 (Int32.ofNat n) 1 = -1 := by
    show (if own_fcan (Int32.ofNat n) = (0 : Int32) then (-1 : Int32) else _) = _
    rw [if_pos e2]
  have e4 : own_tokf (Int32.ofNat n) = (if (Int32.ofNat n) < (97 : Int32) then (if (Int32.ofNat n) < (65 : Int32) then (if (Int32.ofNat n) < (48 : Int32) then (if (own_fix1 (Int32.ofNat n) 1) < (0 : Int32) then (0 : Int32) else (1 : Int32)) else (if (57 : Int32) < (Int32.ofNat n) then (if (own_fix1 (Int32.ofNat n) 1) < (0 : Int32) then (0 : Int32) else (1 : Int32)) else (1 : Int32))) else (if (90 : Int32) < (Int32.ofNat n) then (if (Int32.ofNat n) < (48 : Int32) then (if (own_fix1 (Int32.ofNat n) 1) < (0 : Int32) then (0 : Int32) else (1 : Int32)) else (if (57 : Int32) < (Int32.ofNat n) then (if (own_fix1 (Int32.ofNat n) 1) < (0 : Int32) then (0 : Int32) else (1 : Int32)) else (1 : Int32))) else (1 : Int32))) else (if (122 : Int32) < (Int32.ofNat n) then (if (Int32.ofNat n) < (65 : Int32) then (if (Int32.ofNat n) < (48 : Int32) then (if (own_fix1 (Int32.ofNat n) 1) < (0 : Int32) then (0 : Int32) else (1 : Int32)) else (if (57 : Int32) < (Int32.ofNat n) then (if (own_fix1 (Int32.ofNat n) 1) < (0 : Int32) then (0 : Int32) else (1 : Int32)) else (1 : Int32))) else (if (90 : Int32) < (Int32.ofNat n) then (if (Int32.ofNat n) < (48 : Int32) then (if (own_fix1 (Int32.ofNat n) 1) < (0 : Int32) then (0 : Int32) else (1 : Int32)) else (if (57 : Int32) < (Int32.ofNat n) then (if (own_fix1 (Int32.ofNat n) 1) < (0 : Int32) then (0 : Int32) else (1 : Int32)) else (1 : Int32))) else (1 : Int32))) else (1 : Int32))) := rfl
  rw [e1, e4, e3]
  simp only [(q 97 (by decide)).1, (q 122 (by decide)).2, (q 65 (by decide)).1, (q 90 (by decide)).2, (q 48 (by decide)).1, (q 57 (by decide)).2, if_true, if_false]
  decide
theorem own_plain (p s : Int32) : own_ftok (p.toUInt32.toUInt16.toUInt32.toInt32) s = own_fexp (p.toUInt32.toUInt16.toUInt32.toInt32) := by
  rw [own_tok_s]
  obtain ⟨n, hn, e⟩ := own_char p
  rw [e]
  by_cases h : n < 256
  · exact own_low ⟨n, h⟩
  · exact own_high (by omega) hn
theorem own_ef0 (m : MethodId) (p0 : Int32) (p1 : Int32) : entryFrame m #[(.int p0), (.int p1)] maxLocals = mkF m 0 #[.val (.int p0), .val (.int p1), .unset] [] := by first | (simp [entryFrame, mkF, argsToLocals, Value.category, maxLocals]; done) | rfl
set_option maxRecDepth 65536 in
set_option maxHeartbeats 40000000 in
theorem own_m0 (l : Launch) (Z : State) (a0 : Array Value) (hw : ∀ d ∈ tables_1, d.before a0 Z = true) (ws : List Jvm.Cond) (p0 : Int32) (p1 : Int32) (s_String_COMPACT_STRINGS : Int32) (h0 : Heap) (n0 : Nat) (Z0 : n0 ≤ h0.size) (S_String_COMPACT_STRINGS : Sta Z h0 "java/lang/String" "COMPACT_STRINGS" "Z" (.int s_String_COMPACT_STRINGS)) (hnz : ¬ (s_String_COMPACT_STRINGS = (0 : Int32))) :
    own_MetH l Z consts_1 x code maxLocals ret ws room_1 #[(.int p0), (.int p1)] h0 (fun (v : Option Value) (h : Heap) (L : List Loc) => v = some (.int 1) ∧ Fr n0 L) := by
  refine own_enterH (plainFor_of_name own_pn_com_example_holdfast_holdfast_internal_HttpSyntaxIsTokenCharPinLaw) ?_
  intro p e s m below meth c s₁ P vm0 k0 hx hby hml hrt hlk hown hnm hZ X0 e0 hS hk hC hP
  have N0 := Fr.nil n0
  have K0 := Keep.refl h0 []
  have hml' : c.maxLocals = 3 := hml
  have hEL := own_EW hw
  refine own_cast (own_ef0 m p0 p1) ?_
  show own_End p e below P (s₁.setTop (mkF m 0 #[.val (.int p0), .val (.int p1), .unset] []))
  refine own_st (fun _ => XS.iloadN X0.here hx rfl (hb hby at_0) rfl) ?_
  show own_End p e below P (s₁.setTop (mkF m 1 #[.val (.int p0), .val (.int p1), .unset] [(.int p1)]))
  refine own_st (fun _ => XS.iconst X0.here hx rfl (hb hby at_1)) ?_
  show own_End p e below P (s₁.setTop (mkF m 2 #[.val (.int p0), .val (.int p1), .unset] [(.int (1 : Int32)), (.int p1)]))
  refine own_st (fun _ => XS.iand X0.here hx rfl (hb hby at_2) rfl) ?_
  show own_End p e below P (s₁.setTop (mkF m 3 #[.val (.int p0), .val (.int p1), .unset] [(.int (p1 &&& (1 : Int32)))]))
  by_cases hc1 : (p1 &&& (1 : Int32)) = (0 : Int32)
  · refine own_st (fun _ => XS.ifYes X0.here hx rfl (pc0 := 3) (pc' := 14) rfl (hb hby at_3) rfl ((if0 _ _).trans (teq hc1).1) (by decide) (by decide)) ?_
    show own_End p e below P (s₁.setTop (mkF m 14 #[.val (.int p0), .val (.int p1), .unset] []))
    refine own_st (fun _ => XS.iloadN X0.here hx rfl (hb hby at_14) rfl) ?_
    show own_End p e below P (s₁.setTop (mkF m 15 #[.val (.int p0), .val (.int p1), .unset] [(.int p0)]))
    refine own_st (fun _ => XS.i2c X0.here hx rfl (hb hby at_15) rfl) ?_
    show own_End p e below P (s₁.setTop (mkF m 16 #[.val (.int p0), .val (.int p1), .unset] [(.int (p0.toUInt32.toUInt16.toUInt32.toInt32))]))
    refine own_st (fun _ => XS.istoreN X0.here hx rfl (hb hby at_16) rfl (l' := #[.val (.int p0), .val (.int p1), .val (.int (p0.toUInt32.toUInt16.toUInt32.toInt32))]) rfl) ?_
    show own_End p e below P (s₁.setTop (mkF m 17 #[.val (.int p0), .val (.int p1), .val (.int (p0.toUInt32.toUInt16.toUInt32.toInt32))] []))
    refine own_st (fun _ => XS.iloadN X0.here hx rfl (hb hby at_17) rfl) ?_
    show own_End p e below P (s₁.setTop (mkF m 18 #[.val (.int p0), .val (.int p1), .val (.int (p0.toUInt32.toUInt16.toUInt32.toInt32))] [(.int (p0.toUInt32.toUInt16.toUInt32.toInt32))]))
    refine own_callSH X0 hS hk hEL hC hx hZ (y := (⟨"com/example/holdfast/holdfast/internal/HttpSyntax", "isTokenChar", "(C)Z"⟩ : MethodName)) hown (hw _ (List.mem_of_getElem? (i := 0) rfl)) (hw _ (List.mem_of_getElem? (i := 1) rfl)) (hw _ (List.mem_of_getElem? (i := 2) rfl)) (hw _ (List.mem_of_getElem? (i := 3) rfl)) (by decide) (own_mtok l Z a0 hw [] (p0.toUInt32.toUInt16.toUInt32.toInt32) s_String_COMPACT_STRINGS h0 n0 (Nat.le_trans Z0 K0.1) S_String_COMPACT_STRINGS hnz) 0 (by decide) (by decide) e0 (by decide) (by decide) (g := (mkF m 18 #[.val (.int p0), .val (.int p1), .val (.int (p0.toUInt32.toUInt16.toUInt32.toInt32))] [(.int (p0.toUInt32.toUInt16.toUInt32.toInt32))])) rfl (by rw [hml']; rfl) (argsL := [(.int (p0.toUInt32.toUInt16.toUInt32.toInt32))]) (rest := []) rfl (lenOf own_pd_C_Z_238 rfl) rfl (by show 2 * 0 + _ ≤ _; exact Nat.le_of_eq rfl) (hb hby at_18) (fun r2 T2 L2 X2 hQ2 hS hZ hown hC => ?_)
    obtain ⟨rfl, Nq2, Kq2⟩ := hQ2
    have N2 := Fr.app N0 Nq2
    have K2 := Keep.trans K0 Kq2 all0
    have hk2 : T2.heap.size ≤ T2.heap.size := Nat.le_refl _
    show own_End p e below P (T2.setTop (mkF m 21 #[.val (.int p0), .val (.int p1), .val (.int (p0.toUInt32.toUInt16.toUInt32.toInt32))] [(.int (own_ftok (p0.toUInt32.toUInt16.toUInt32.toInt32) s_String_COMPACT_STRINGS))]))
    refine own_st (fun _ => XS.iloadN X2.here hx rfl (hb hby at_21) rfl) ?_
    show own_End p e below P (T2.setTop (mkF m 22 #[.val (.int p0), .val (.int p1), .val (.int (p0.toUInt32.toUInt16.toUInt32.toInt32))] [(.int (p0.toUInt32.toUInt16.toUInt32.toInt32)), (.int (own_ftok (p0.toUInt32.toUInt16.toUInt32.toInt32) s_String_COMPACT_STRINGS))]))
    refine own_callS X2 hx hZ (y := (⟨"com/example/holdfast/holdfast/internal/HttpSyntaxIsTokenCharPinLaw", "expected", "(C)Z"⟩ : MethodName)) hown (hw _ (List.mem_of_getElem? (i := 57) rfl)) (hw _ (List.mem_of_getElem? (i := 58) rfl)) (hw _ (List.mem_of_getElem? (i := 59) rfl)) (hw _ (List.mem_of_getElem? (i := 60) rfl)) (by decide) (own_mexp l Z a0 hw [] (p0.toUInt32.toUInt16.toUInt32.toInt32)  T2.heap n0 (Nat.le_trans Z0 K2.1) ) 1 (by decide) (by decide) rfl (by decide) (by decide) (g := (mkF m 22 #[.val (.int p0), .val (.int p1), .val (.int (p0.toUInt32.toUInt16.toUInt32.toInt32))] [(.int (p0.toUInt32.toUInt16.toUInt32.toInt32)), (.int (own_ftok (p0.toUInt32.toUInt16.toUInt32.toInt32) s_String_COMPACT_STRINGS))])) rfl (by rw [hml']; rfl) (argsL := [(.int (p0.toUInt32.toUInt16.toUInt32.toInt32))]) (rest := [(.int (own_ftok (p0.toUInt32.toUInt16.toUInt32.toInt32) s_String_COMPACT_STRINGS))]) rfl (lenOf own_pd_C_Z_238 rfl) rfl (by show 2 * 0 + _ ≤ _; exact Nat.le_of_eq rfl) (hb hby at_22) (fun r3 T3 L3 X3 hQ3 => ?_)
    obtain ⟨rfl, Nq3, eq3⟩ := hQ3
    have N3 := Fr.app N2 Nq3
    show own_End p e below P (T3.setTop (mkF m 25 #[.val (.int p0), .val (.int p1), .val (.int (p0.toUInt32.toUInt16.toUInt32.toInt32))] [(.int (own_fexp (p0.toUInt32.toUInt16.toUInt32.toInt32))), (.int (own_ftok (p0.toUInt32.toUInt16.toUInt32.toInt32) s_String_COMPACT_STRINGS))]))
    have hd4 : (own_ftok (p0.toUInt32.toUInt16.toUInt32.toInt32) s_String_COMPACT_STRINGS) = (own_fexp (p0.toUInt32.toUInt16.toUInt32.toInt32)) := by exact own_plain _ _
    refine own_st (fun _ => XS.icmpNo X3.here hx rfl (hb hby at_25) rfl (teq hd4).2) ?_
    show own_End p e below P (T3.setTop (mkF m 28 #[.val (.int p0), .val (.int p1), .val (.int (p0.toUInt32.toUInt16.toUInt32.toInt32))] []))
    refine own_st (fun _ => XS.iconst X3.here hx rfl (hb hby at_28)) ?_
    show own_End p e below P (T3.setTop (mkF m 29 #[.val (.int p0), .val (.int p1), .val (.int (p0.toUInt32.toUInt16.toUInt32.toInt32))] [(.int (1 : Int32))]))
    refine own_st (fun _ => XS.goto X3.here hx rfl (pc0 := 29) (pc' := 33) rfl (hb hby at_29) (by decide) (by decide)) ?_
    show own_End p e below P (T3.setTop (mkF m 33 #[.val (.int p0), .val (.int p1), .val (.int (p0.toUInt32.toUInt16.toUInt32.toInt32))] [(.int (1 : Int32))]))
    exact own_retNH X3 hS hk2 eq3 hZ hEL hC hx hlk hP (t := .boolean) (by simp) hrt (hb hby at_33) (by decide) (by decide) ⟨rfl, N3⟩
  · refine own_st (fun _ => XS.ifNo X0.here hx rfl (hb hby at_3) rfl ((if0 _ _).trans (feq hc1).1)) ?_
    show own_End p e below P (s₁.setTop (mkF m 6 #[.val (.int p0), .val (.int p1), .unset] []))
    refine own_st (fun _ => XS.iloadN X0.here hx rfl (hb hby at_6) rfl) ?_
    show own_End p e below P (s₁.setTop (mkF m 7 #[.val (.int p0), .val (.int p1), .unset] [(.int p0)]))
    refine own_st (fun _ => XS.bipush X0.here hx rfl (hb hby at_7)) ?_
    show own_End p e below P (s₁.setTop (mkF m 9 #[.val (.int p0), .val (.int p1), .unset] [(.int (127 : Int32)), (.int p0)]))
    refine own_st (fun _ => XS.iand X0.here hx rfl (hb hby at_9) rfl) ?_
    show own_End p e below P (s₁.setTop (mkF m 10 #[.val (.int p0), .val (.int p1), .unset] [(.int (p0 &&& (127 : Int32)))]))
    refine own_st (fun _ => XS.i2c X0.here hx rfl (hb hby at_10) rfl) ?_
    show own_End p e below P (s₁.setTop (mkF m 11 #[.val (.int p0), .val (.int p1), .unset] [(.int ((p0 &&& (127 : Int32)).toUInt32.toUInt16.toUInt32.toInt32))]))
    refine own_st (fun _ => XS.goto X0.here hx rfl (pc0 := 11) (pc' := 16) rfl (hb hby at_11) (by decide) (by decide)) ?_
    show own_End p e below P (s₁.setTop (mkF m 16 #[.val (.int p0), .val (.int p1), .unset] [(.int ((p0 &&& (127 : Int32)).toUInt32.toUInt16.toUInt32.toInt32))]))
    refine own_st (fun _ => XS.istoreN X0.here hx rfl (hb hby at_16) rfl (l' := #[.val (.int p0), .val (.int p1), .val (.int ((p0 &&& (127 : Int32)).toUInt32.toUInt16.toUInt32.toInt32))]) rfl) ?_
    show own_End p e below P (s₁.setTop (mkF m 17 #[.val (.int p0), .val (.int p1), .val (.int ((p0 &&& (127 : Int32)).toUInt32.toUInt16.toUInt32.toInt32))] []))
    refine own_st (fun _ => XS.iloadN X0.here hx rfl (hb hby at_17) rfl) ?_
    show own_End p e below P (s₁.setTop (mkF m 18 #[.val (.int p0), .val (.int p1), .val (.int ((p0 &&& (127 : Int32)).toUInt32.toUInt16.toUInt32.toInt32))] [(.int ((p0 &&& (127 : Int32)).toUInt32.toUInt16.toUInt32.toInt32))]))
    refine own_callSH X0 hS hk hEL hC hx hZ (y := (⟨"com/example/holdfast/holdfast/internal/HttpSyntax", "isTokenChar", "(C)Z"⟩ : MethodName)) hown (hw _ (List.mem_of_getElem? (i := 0) rfl)) (hw _ (List.mem_of_getElem? (i := 1) rfl)) (hw _ (List.mem_of_getElem? (i := 2) rfl)) (hw _ (List.mem_of_getElem? (i := 3) rfl)) (by decide) (own_mtok l Z a0 hw [] ((p0 &&& (127 : Int32)).toUInt32.toUInt16.toUInt32.toInt32) s_String_COMPACT_STRINGS h0 n0 (Nat.le_trans Z0 K0.1) S_String_COMPACT_STRINGS hnz) 0 (by decide) (by decide) e0 (by decide) (by decide) (g := (mkF m 18 #[.val (.int p0), .val (.int p1), .val (.int ((p0 &&& (127 : Int32)).toUInt32.toUInt16.toUInt32.toInt32))] [(.int ((p0 &&& (127 : Int32)).toUInt32.toUInt16.toUInt32.toInt32))])) rfl (by rw [hml']; rfl) (argsL := [(.int ((p0 &&& (127 : Int32)).toUInt32.toUInt16.toUInt32.toInt32))]) (rest := []) rfl (lenOf own_pd_C_Z_238 rfl) rfl (by show 2 * 0 + _ ≤ _; exact Nat.le_of_eq rfl) (hb hby at_18) (fun r5 T5 L5 X5 hQ5 hS hZ hown hC => ?_)
    obtain ⟨rfl, Nq5, Kq5⟩ := hQ5
    have N5 := Fr.app N0 Nq5
    have K5 := Keep.trans K0 Kq5 all0
    have hk5 : T5.heap.size ≤ T5.heap.size := Nat.le_refl _
    show own_End p e below P (T5.setTop (mkF m 21 #[.val (.int p0), .val (.int p1), .val (.int ((p0 &&& (127 : Int32)).toUInt32.toUInt16.toUInt32.toInt32))] [(.int (own_ftok ((p0 &&& (127 : Int32)).toUInt32.toUInt16.toUInt32.toInt32) s_String_COMPACT_STRINGS))]))
    refine own_st (fun _ => XS.iloadN X5.here hx rfl (hb hby at_21) rfl) ?_
    show own_End p e below P (T5.setTop (mkF m 22 #[.val (.int p0), .val (.int p1), .val (.int ((p0 &&& (127 : Int32)).toUInt32.toUInt16.toUInt32.toInt32))] [(.int ((p0 &&& (127 : Int32)).toUInt32.toUInt16.toUInt32.toInt32)), (.int (own_ftok ((p0 &&& (127 : Int32)).toUInt32.toUInt16.toUInt32.toInt32) s_String_COMPACT_STRINGS))]))
    refine own_callS X5 hx hZ (y := (⟨"com/example/holdfast/holdfast/internal/HttpSyntaxIsTokenCharPinLaw", "expected", "(C)Z"⟩ : MethodName)) hown (hw _ (List.mem_of_getElem? (i := 57) rfl)) (hw _ (List.mem_of_getElem? (i := 58) rfl)) (hw _ (List.mem_of_getElem? (i := 59) rfl)) (hw _ (List.mem_of_getElem? (i := 60) rfl)) (by decide) (own_mexp l Z a0 hw [] ((p0 &&& (127 : Int32)).toUInt32.toUInt16.toUInt32.toInt32)  T5.heap n0 (Nat.le_trans Z0 K5.1) ) 1 (by decide) (by decide) rfl (by decide) (by decide) (g := (mkF m 22 #[.val (.int p0), .val (.int p1), .val (.int ((p0 &&& (127 : Int32)).toUInt32.toUInt16.toUInt32.toInt32))] [(.int ((p0 &&& (127 : Int32)).toUInt32.toUInt16.toUInt32.toInt32)), (.int (own_ftok ((p0 &&& (127 : Int32)).toUInt32.toUInt16.toUInt32.toInt32) s_String_COMPACT_STRINGS))])) rfl (by rw [hml']; rfl) (argsL := [(.int ((p0 &&& (127 : Int32)).toUInt32.toUInt16.toUInt32.toInt32))]) (rest := [(.int (own_ftok ((p0 &&& (127 : Int32)).toUInt32.toUInt16.toUInt32.toInt32) s_String_COMPACT_STRINGS))]) rfl (lenOf own_pd_C_Z_238 rfl) rfl (by show 2 * 0 + _ ≤ _; exact Nat.le_of_eq rfl) (hb hby at_22) (fun r6 T6 L6 X6 hQ6 => ?_)
    obtain ⟨rfl, Nq6, eq6⟩ := hQ6
    have N6 := Fr.app N5 Nq6
    show own_End p e below P (T6.setTop (mkF m 25 #[.val (.int p0), .val (.int p1), .val (.int ((p0 &&& (127 : Int32)).toUInt32.toUInt16.toUInt32.toInt32))] [(.int (own_fexp ((p0 &&& (127 : Int32)).toUInt32.toUInt16.toUInt32.toInt32))), (.int (own_ftok ((p0 &&& (127 : Int32)).toUInt32.toUInt16.toUInt32.toInt32) s_String_COMPACT_STRINGS))]))
    have hd7 : (own_ftok ((p0 &&& (127 : Int32)).toUInt32.toUInt16.toUInt32.toInt32) s_String_COMPACT_STRINGS) = (own_fexp ((p0 &&& (127 : Int32)).toUInt32.toUInt16.toUInt32.toInt32)) := by exact own_plain _ _
    refine own_st (fun _ => XS.icmpNo X6.here hx rfl (hb hby at_25) rfl (teq hd7).2) ?_
    show own_End p e below P (T6.setTop (mkF m 28 #[.val (.int p0), .val (.int p1), .val (.int ((p0 &&& (127 : Int32)).toUInt32.toUInt16.toUInt32.toInt32))] []))
    refine own_st (fun _ => XS.iconst X6.here hx rfl (hb hby at_28)) ?_
    show own_End p e below P (T6.setTop (mkF m 29 #[.val (.int p0), .val (.int p1), .val (.int ((p0 &&& (127 : Int32)).toUInt32.toUInt16.toUInt32.toInt32))] [(.int (1 : Int32))]))
    refine own_st (fun _ => XS.goto X6.here hx rfl (pc0 := 29) (pc' := 33) rfl (hb hby at_29) (by decide) (by decide)) ?_
    show own_End p e below P (T6.setTop (mkF m 33 #[.val (.int p0), .val (.int p1), .val (.int ((p0 &&& (127 : Int32)).toUInt32.toUInt16.toUInt32.toInt32))] [(.int (1 : Int32))]))
    exact own_retNH X6 hS hk5 eq6 hZ hEL hC hx hlk hP (t := .boolean) (by simp) hrt (hb hby at_33) (by decide) (by decide) ⟨rfl, N6⟩
set_option maxRecDepth 65536 in
set_option maxHeartbeats 40000000 in
theorem comes_1 {Post : Tables → Env → Array Value → State → Outcome → State → Prop} (hpost : ∀ tb e args s v u, (limb_1_1.after args s (.returned v) u = true ∧ limb_1_2.after args s (.returned v) u = true ∧ True) → ReturnedEndW s (.returned v) u (Jvm.fieldLocs frame_1_writes args s ++ Jvm.arrayLocs frame_1_arrays args s ++ Jvm.staticLocs frame_1_statics s) 8 1088 → Post tb e args s (.returned v) u) :
    ArmFor flags0 classFile x code maxLocals ret World_1 tables_1 room_1 Calls_1 rest_1 Pre_1 Post := by
  intro l hfl _ _ p e ha hc hk s m args below hf hA hF happ hP
  obtain ⟨hcalls, hrest, hpre⟩ := hP
  obtain ⟨-, -, -, hnamed, -, -, -, hat⟩ := (Spec.applies_iff hf).mp happ
  obtain ⟨hg, hn⟩ := and_e (Cond.before_iff.mp (show (Jvm.Cond.and given_1 narrow_1).before args s = true from hpre))
  obtain ⟨k1, l1⟩ := and_e hg
  obtain ⟨k2, l2⟩ := and_e l1
  obtain ⟨w0, w1, rfl⟩ : ∃ w0 w1 : Value, args = #[w0, w1] := by
    have hs : args.size = 2 := by simpa [Cond.value, given_1] using k1
    obtain ⟨L⟩ := args
    match L, hs with
    | [w0, w1], _ => exact ⟨w0, w1, rfl⟩
  have hw := fun d (hd : d ∈ tables_1) => atoms_spec (ws := Jvm.Cond.code x code maxLocals ret :: tables_1) hat d (List.mem_cons_of_mem _ hd)
  have hfit : Fit s := fun {y c} hc i hi => by
    obtain ⟨ha, rfl⟩ := Array.getElem?_eq_some_iff.mp hc
    have q := List.all_eq_true.mp ((Array.all_eq_true_iff_forall_mem.mp hF) _ (Array.getElem_mem ha)) i (List.mem_range.mpr hi)
    simpa [Array.getElem?_eq_getElem hi] using q
  obtain ⟨hsets, hown0⟩ := atoms_of _ (rest_1_c_eq ▸ (show rest_1_c.before _ s = true from hrest))
  have hr0 := Cond.before_iff.mp hown0
  obtain ⟨i0, ei0⟩ := is_v k2
  obtain rfl : w0 = (.int i0) := Option.some.inj ei0
  obtain ⟨i1, ei1⟩ := is_v l2
  obtain rfl : w1 = (.int i1) := Option.some.inj ei1
  have hi0 := is_v (Cond.before_iff.mp (hsets _ (List.mem_of_getElem? (i := 1) rfl)))
  obtain ⟨cz, ecz⟩ := hi0
  have S1 : Sta s s.heap "java/lang/String" "COMPACT_STRINGS" "Z" (.int cz) := Sta.start ecz (Or.inl (hsets _ (List.mem_of_getElem? (i := 0) rfl)))
  have hcz : ¬ (cz = (0 : Int32)) := gotF (Cond.eq_ints ecz (Term.int_eval (0))) (not_v (Cond.before_iff.mp (hsets _ (List.mem_of_getElem? (i := 2) rfl))))
  have hcv : CHv s consts_1 s.vm s.heap := CHv.start (own_EW hw) hcalls.1 (hsets _ (List.mem_of_getElem? (i := 2) rfl)) (hw _ (List.mem_of_getElem? (i := 7) rfl)) (hw _ (List.mem_of_getElem? (i := 6) rfl))
  obtain ⟨n, o, h1, h2, h3, _, L, rfl, ⟨rfl, N⟩, -, hq⟩ := own_m0 l s _ hw tables_1 i0 i1 cz s.heap s.heap.size (Nat.le_refl _) S1 hcz p e ha hc hk s m _ below hf ((Spec.applies_iff_loose hf).mp happ).1 ⟨rfl, State.Warmed39.refl s, rfl, hcv⟩ trivial
  refine ⟨n, _, h1, h2, h3, hpost _ _ _ _ _ _ ⟨Cond.after_iff.mpr rfl, Cond.after_iff.mpr (eq_i res_at (Term.int_eval (1)) rfl), trivial⟩ ⟨hq.1, hq.2.1, hq.2.2.1, (hq.2.2.2.sift fun y hy => Or.inr (N y hy)).mono (by decide) (by decide)⟩⟩
theorem main_1_1 : Claimed_1_1 := comes_1 fun _ _ _ _ _ _ h hF => ⟨h.1, hF⟩
theorem main_1_2 : Claimed_1_2 := comes_1 fun _ _ _ _ _ _ h hF => ⟨h.2.1, hF⟩
end Jvm.Pilot.@@N@@
namespace Jvm.Pilot.@@N@@
open Jvm Jvm.ClassFile Sem Op Lib Jvm.Free Jvm.Stand Jvm.Pilot.@@N@@.Jvm.D
/-! MADE BY PROGRAM (witnessworld.py) out of the Statement's table words and the real class files: 18 classes; the members and pool entries that the words name. The judged class is class 1, her method 3. -/
namespace start1
open Jvm.ClassFile
def u (s : String) : CpInfo := .utf8 (stringToUtf16 s)
/-- a pool by its gaps: so many unusable entries, then the entry; so many at the end -/
def gap : Nat → List CpInfo → List CpInfo
  | 0, r => r
  | n + 1, r => .unusable :: gap n r
def poolList (es : List (Nat × CpInfo)) (last : Nat) : List CpInfo := es.foldr (fun e r => gap e.1 (e.2 :: r)) (gap last [])
def pool (es : List (Nat × CpInfo)) (last : Nat) : Array CpInfo := ⟨poolList es last⟩
def fileOf (pool : Array CpInfo) (this : Nat) (attrs : Array Attribute := #[]) (ms : Array MethodInfo := #[]) (fl : Nat := 33) (sup : Nat := 0) (ifs : Array Nat := #[]) (fds : Array FieldInfo := #[]) : ClassFile where
  minorVersion := 0
  majorVersion := 65
  constantPool := pool
  accessFlags := fl
  thisClass := this
  superClass := sup
  interfaces := ifs
  fields := fds
  methods := ms
  attributes := attrs
def plain (name : String) (sup : Option ClassId) : Class where
  name := name
  kind := .ordinary
  loader := none
  accessFlags := 33
  super := sup
  interfaces := #[]
  cf := none
  fields := #[]
  methods := #[]
  instanceTypes := #[]
  staticTypes := #[]
  resolved := #[]
  callSites := []
  init := .initialized
  statics := none
  mirror := none

def pool0 : Array CpInfo := pool [(5, u "<init>"), (0, u "()V"), (1, .class_ 10), (1, u "java/lang/Object")] 113

def k0m0 : Method := { name := "<init>", desc := "()V", sig := { parameters := [], returnType := none }, accessFlags := 1, code := none }
/-- java/lang/Object -/
def k0 : Class := { plain "java/lang/Object" none with
  accessFlags := 33
  interfaces := #[]
  cf := some (fileOf pool0 8 #[] #[{ accessFlags := 1, nameIndex := 5, descriptorIndex := 6, attributes := #[] }] 33 0 #[] #[])
  fields := #[]
  methods := #[k0m0]
  instanceTypes := #[]
  staticTypes := #[]
  resolved := Array.replicate 124 none
  statics := none }

def pool1 : Array CpInfo := pool [(2, .class_ 4), (1, u "java/lang/Object"), (0, u "<init>"), (0, u "()V"), (0, .methodref 8 9), (0, .class_ 10), (0, .nameAndType 11 12), (0, u "com/example/holdfast/holdfast/internal/HttpSyntaxIsTokenCharPinLaw"), (0, u "isDelimiter"), (0, u "(C)Z"), (0, .methodref 14 15), (0, .class_ 16), (0, .nameAndType 17 12), (0, u "com/example/holdfast/holdfast/internal/HttpSyntax"), (0, u "isTokenChar"), (0, .methodref 8 19), (0, .nameAndType 20 12), (0, u "expected"), (3, u "law"), (0, u "(II)Z")] 2

def k1m0 : Method := { name := "<init>", desc := "()V", sig := { parameters := [], returnType := none }, accessFlags := 2, code := none }
def k1c1 : Code := { maxStack := 2, maxLocals := 1, code := method_2_code, exceptionTable := #[], attributes := #[] }
def k1m1 : Method := { name := "isDelimiter", desc := "(C)Z", sig := { parameters := [.char], returnType := some .boolean }, accessFlags := 10, code := some k1c1 }
def k1c2 : Code := { maxStack := 2, maxLocals := 1, code := method_3_code, exceptionTable := #[], attributes := #[] }
def k1m2 : Method := { name := "expected", desc := "(C)Z", sig := { parameters := [.char], returnType := some .boolean }, accessFlags := 10, code := some k1c2 }
def k1c3 : Code := { maxStack := 2, maxLocals := 3, code := code, exceptionTable := #[], attributes := #[] }
def k1m3 : Method := { name := "law", desc := "(II)Z", sig := { parameters := [.int, .int], returnType := some .boolean }, accessFlags := 9, code := some k1c3 }
/-- com/example/holdfast/holdfast/internal/HttpSyntaxIsTokenCharPinLaw -/
def k1 : Class := { plain "com/example/holdfast/holdfast/internal/HttpSyntaxIsTokenCharPinLaw" (some 0) with
  accessFlags := 49
  interfaces := #[]
  cf := some (fileOf pool1 8 #[] #[{ accessFlags := 2, nameIndex := 5, descriptorIndex := 6, attributes := #[] }, { accessFlags := 10, nameIndex := 11, descriptorIndex := 12, attributes := #[] }, { accessFlags := 10, nameIndex := 20, descriptorIndex := 12, attributes := #[] }, { accessFlags := 9, nameIndex := 24, descriptorIndex := 25, attributes := #[] }] 49 2 #[] #[])
  fields := #[]
  methods := #[k1m0, k1m1, k1m2, k1m3]
  instanceTypes := #[]
  staticTypes := #[]
  resolved := Array.replicate 28 none
  statics := none }

def pool2 : Array CpInfo := pool [(2, .class_ 4), (1, u "java/lang/Object"), (0, u "<init>"), (0, u "()V"), (0, .class_ 8), (0, u "com/example/holdfast/holdfast/internal/HttpSyntax"), (0, .string 10), (0, u "!#$%&'*+-.^_`|~"), (0, .methodref 12 13), (0, .class_ 14), (0, .nameAndType 15 16), (0, u "java/lang/String"), (0, u "indexOf"), (0, u "(I)I"), (10, u "isTokenChar"), (0, u "(C)Z"), (80, u "TOKEN_SYMBOLS"), (0, u "Ljava/lang/String;")] 25

def k2m0 : Method := { name := "<init>", desc := "()V", sig := { parameters := [], returnType := none }, accessFlags := 2, code := none }
def k2c1 : Code := { maxStack := 2, maxLocals := 1, code := prog_26_method_2_code, exceptionTable := #[], attributes := #[] }
def k2m1 : Method := { name := "isTokenChar", desc := "(C)Z", sig := { parameters := [.char], returnType := some .boolean }, accessFlags := 9, code := some k2c1 }
/-- com/example/holdfast/holdfast/internal/HttpSyntax -/
def k2 : Class := { plain "com/example/holdfast/holdfast/internal/HttpSyntax" (some 0) with
  accessFlags := 49
  interfaces := #[]
  cf := some (fileOf pool2 7 #[] #[{ accessFlags := 2, nameIndex := 5, descriptorIndex := 6, attributes := #[] }, { accessFlags := 9, nameIndex := 27, descriptorIndex := 28, attributes := #[] }] 49 2 #[] #[{ accessFlags := 26, nameIndex := 109, descriptorIndex := 110, attributes := #[] }])
  fields := #[{ name := "TOKEN_SYMBOLS", type := (.object "java/lang/String"), accessFlags := 26, slot := 0, constantValue := 0 }]
  methods := #[k2m0, k2m1]
  instanceTypes := #[]
  staticTypes := #[(.object "java/lang/String")]
  resolved := Array.replicate 136 none
  statics := none }

def pool3 : Array CpInfo := pool [(1, .class_ 2), (0, u "java/io/Serializable"), (0, .class_ 4), (0, u "java/lang/Object")] 2

/-- java/io/Serializable -/
def k3 : Class := { plain "java/io/Serializable" (some 0) with
  accessFlags := 1537
  interfaces := #[]
  cf := some (fileOf pool3 1 #[] #[] 1537 3 #[] #[])
  fields := #[]
  methods := #[]
  instanceTypes := #[]
  staticTypes := #[]
  resolved := Array.replicate 7 none
  statics := none }

def pool4 : Array CpInfo := pool [(1, .class_ 2), (0, u "java/lang/Comparable"), (0, .class_ 4), (0, u "java/lang/Object")] 7

/-- java/lang/Comparable -/
def k4 : Class := { plain "java/lang/Comparable" (some 0) with
  accessFlags := 1537
  interfaces := #[]
  cf := some (fileOf pool4 1 #[] #[] 1537 3 #[] #[])
  fields := #[]
  methods := #[]
  instanceTypes := #[]
  staticTypes := #[]
  resolved := Array.replicate 12 none
  statics := none }

def pool5 : Array CpInfo := pool [(2, .class_ 4), (1, u "java/lang/CharSequence"), (42, .class_ 48), (0, u "java/lang/CharSequence$1CodePointIterator"), (10, .class_ 60), (0, u "java/lang/CharSequence$1CharIterator"), (5, .class_ 67), (0, u "java/lang/Object")] 63

/-- java/lang/CharSequence -/
def k5 : Class := { plain "java/lang/CharSequence" (some 0) with
  accessFlags := 1537
  interfaces := #[]
  cf := some (fileOf pool5 2 #[.nestMembers #[47, 59]] #[] 1537 66 #[] #[])
  fields := #[]
  methods := #[]
  instanceTypes := #[]
  staticTypes := #[]
  resolved := Array.replicate 131 none
  statics := none }

def pool6 : Array CpInfo := pool [(1, .class_ 2), (0, u "java/lang/constant/Constable"), (0, .class_ 4), (0, u "java/lang/Object")] 6

/-- java/lang/constant/Constable -/
def k6 : Class := { plain "java/lang/constant/Constable" (some 0) with
  accessFlags := 1537
  interfaces := #[]
  cf := some (fileOf pool6 1 #[] #[] 1537 3 #[] #[])
  fields := #[]
  methods := #[]
  instanceTypes := #[]
  staticTypes := #[]
  resolved := Array.replicate 11 none
  statics := none }

def pool7 : Array CpInfo := pool [(1, .class_ 2), (0, u "java/lang/constant/ConstantDesc"), (0, .class_ 4), (0, u "java/lang/Object")] 32

/-- java/lang/constant/ConstantDesc -/
def k7 : Class := { plain "java/lang/constant/ConstantDesc" (some 0) with
  accessFlags := 1537
  interfaces := #[]
  cf := some (fileOf pool7 1 #[] #[] 1537 3 #[] #[])
  fields := #[]
  methods := #[]
  instanceTypes := #[]
  staticTypes := #[]
  resolved := Array.replicate 37 none
  statics := none }

def pool8 : Array CpInfo := pool [(2, .class_ 4), (1, u "java/lang/Object"), (0, u "<init>"), (0, u "()V"), (2, .fieldref 10 11), (0, .class_ 12), (0, .nameAndType 13 14), (0, u "java/lang/String"), (0, u "value"), (0, u "[B"), (0, .fieldref 10 16), (0, .nameAndType 17 18), (0, u "coder"), (0, u "B"), (2, u "hash"), (0, u "I"), (2, u "hashIsZero"), (0, u "Z"), (11, .fieldref 10 39), (0, .nameAndType 40 26), (0, u "COMPACT_STRINGS"), (66, .class_ 109), (1, u "java/lang/StringLatin1"), (32, u "()Z"), (191, u "()I"), (0, .methodref 10 336), (0, .nameAndType 17 337), (0, u "()B"), (154, .methodref 10 493), (0, .nameAndType 494 142), (0, u "isLatin1"), (10, .methodref 10 506), (0, .nameAndType 507 334), (0, u "length"), (67, .class_ 576), (0, u "java/lang/CharSequence"), (22, u "CASE_INSENSITIVE_ORDER"), (0, u "Ljava/util/Comparator;"), (32, .methodref 10 634), (0, .nameAndType 635 636), (0, u "indexOf"), (0, u "(II)I"), (0, .methodref 107 638), (0, .nameAndType 635 639), (0, u "([BIII)I"), (125, u "(I)I"), (335, u "serialPersistentFields"), (0, u "[Ljava/io/ObjectStreamField;"), (0, .class_ 1104), (0, u "java/lang/String$CaseInsensitiveComparator"), (1, .class_ 1107), (0, u "java/io/Serializable"), (0, .class_ 1109), (0, u "java/lang/Comparable"), (0, .class_ 1111), (0, u "java/lang/constant/Constable"), (0, .class_ 1113), (0, u "java/lang/constant/ConstantDesc"), (2, u "serialVersionUID"), (0, u "J"), (3, u "REPL"), (0, u "C"), (2, u "LATIN1"), (1, u "UTF16")] 323

def k8m0 : Method := { name := "<init>", desc := "()V", sig := { parameters := [], returnType := none }, accessFlags := 1, code := none }
def k8c1 : Code := { maxStack := 2, maxLocals := 1, code := jdk_42_method_54_code, exceptionTable := #[], attributes := #[] }
def k8m1 : Method := { name := "length", desc := "()I", sig := { parameters := [], returnType := some .int }, accessFlags := 1, code := some k8c1 }
def k8c2 : Code := { maxStack := 3, maxLocals := 2, code := jdk_42_method_79_code, exceptionTable := #[], attributes := #[] }
def k8m2 : Method := { name := "indexOf", desc := "(I)I", sig := { parameters := [.int], returnType := some .int }, accessFlags := 1, code := some k8c2 }
def k8c3 : Code := { maxStack := 4, maxLocals := 3, code := jdk_42_method_80_code, exceptionTable := #[], attributes := #[] }
def k8m3 : Method := { name := "indexOf", desc := "(II)I", sig := { parameters := [.int, .int], returnType := some .int }, accessFlags := 1, code := some k8c3 }
def k8c4 : Code := { maxStack := 1, maxLocals := 1, code := jdk_42_method_152_code, exceptionTable := #[], attributes := #[] }
def k8m4 : Method := { name := "coder", desc := "()B", sig := { parameters := [], returnType := some .byte }, accessFlags := 0, code := some k8c4 }
def k8c5 : Code := { maxStack := 1, maxLocals := 1, code := jdk_42_method_154_code, exceptionTable := #[], attributes := #[] }
def k8m5 : Method := { name := "isLatin1", desc := "()Z", sig := { parameters := [], returnType := some .boolean }, accessFlags := 0, code := some k8c5 }
/-- java/lang/String -/
def k8 : Class := { plain "java/lang/String" (some 0) with
  accessFlags := 49
  interfaces := #[3, 4, 5, 6, 7]
  cf := some (fileOf pool8 10 #[.nestMembers #[1103]] #[{ accessFlags := 1, nameIndex := 5, descriptorIndex := 6, attributes := #[] }, { accessFlags := 1, nameIndex := 507, descriptorIndex := 334, attributes := #[] }, { accessFlags := 1, nameIndex := 635, descriptorIndex := 765, attributes := #[] }, { accessFlags := 1, nameIndex := 635, descriptorIndex := 636, attributes := #[] }, { accessFlags := 0, nameIndex := 17, descriptorIndex := 337, attributes := #[] }, { accessFlags := 0, nameIndex := 494, descriptorIndex := 142, attributes := #[] }] 49 2 #[1106, 1108, 575, 1110, 1112] #[{ accessFlags := 18, nameIndex := 13, descriptorIndex := 14, attributes := #[] }, { accessFlags := 18, nameIndex := 17, descriptorIndex := 18, attributes := #[] }, { accessFlags := 2, nameIndex := 21, descriptorIndex := 22, attributes := #[] }, { accessFlags := 2, nameIndex := 25, descriptorIndex := 26, attributes := #[] }, { accessFlags := 26, nameIndex := 1116, descriptorIndex := 1117, attributes := #[] }, { accessFlags := 24, nameIndex := 40, descriptorIndex := 26, attributes := #[] }, { accessFlags := 26, nameIndex := 1101, descriptorIndex := 1102, attributes := #[] }, { accessFlags := 26, nameIndex := 1121, descriptorIndex := 1122, attributes := #[] }, { accessFlags := 25, nameIndex := 599, descriptorIndex := 600, attributes := #[] }, { accessFlags := 24, nameIndex := 1125, descriptorIndex := 18, attributes := #[] }, { accessFlags := 24, nameIndex := 1127, descriptorIndex := 18, attributes := #[] }])
  fields := #[{ name := "value", type := (.array .byte), accessFlags := 18, slot := 0, constantValue := 0 }, { name := "coder", type := .byte, accessFlags := 18, slot := 1, constantValue := 0 }, { name := "hash", type := .int, accessFlags := 2, slot := 2, constantValue := 0 }, { name := "hashIsZero", type := .boolean, accessFlags := 2, slot := 3, constantValue := 0 }, { name := "serialVersionUID", type := .long, accessFlags := 26, slot := 0, constantValue := 0 }, { name := "COMPACT_STRINGS", type := .boolean, accessFlags := 24, slot := 1, constantValue := 0 }, { name := "serialPersistentFields", type := (.array (.object "java/io/ObjectStreamField")), accessFlags := 26, slot := 2, constantValue := 0 }, { name := "REPL", type := .char, accessFlags := 26, slot := 3, constantValue := 0 }, { name := "CASE_INSENSITIVE_ORDER", type := (.object "java/util/Comparator"), accessFlags := 25, slot := 4, constantValue := 0 }, { name := "LATIN1", type := .byte, accessFlags := 24, slot := 5, constantValue := 0 }, { name := "UTF16", type := .byte, accessFlags := 24, slot := 6, constantValue := 0 }]
  methods := #[k8m0, k8m1, k8m2, k8m3, k8m4, k8m5]
  instanceTypes := #[(.array .byte), .byte, .int, .boolean]
  staticTypes := #[.long, .boolean, (.array (.object "java/io/ObjectStreamField")), .char, (.object "java/util/Comparator"), .byte, .byte]
  resolved := Array.replicate 1451 none
  statics := some 0 }

def pool9 : Array CpInfo := pool [(4, .class_ 6), (1, u "java/lang/Object"), (0, u "<init>"), (0, u "()V"), (5, .class_ 16), (1, u "java/lang/StringLatin1"), (21, .methodref 39 40), (0, .class_ 41), (0, .nameAndType 42 43), (0, u "java/lang/Math"), (0, u "min"), (0, u "(II)I"), (44, .methodref 14 89), (0, .nameAndType 90 91), (0, u "canEncode"), (0, u "(I)Z"), (0, .methodref 39 93), (0, .nameAndType 94 43), (0, u "max"), (0, .methodref 14 96), (0, .nameAndType 97 98), (0, u "indexOfChar"), (0, u "([BIII)I"), (2, u "indexOf"), (19, u "$assertionsDisabled"), (0, u "Z"), (98, .class_ 223), (1, u "java/lang/StringLatin1$LinesSpliterator"), (166, .class_ 391), (0, u "java/lang/StringLatin1$CharsSpliterator")] 3

def k9m0 : Method := { name := "<init>", desc := "()V", sig := { parameters := [], returnType := none }, accessFlags := 0, code := none }
def k9c1 : Code := { maxStack := 2, maxLocals := 1, code := jdk_43_method_4_code, exceptionTable := #[], attributes := #[] }
def k9m1 : Method := { name := "canEncode", desc := "(I)Z", sig := { parameters := [.int], returnType := some .boolean }, accessFlags := 9, code := some k9c1 }
def k9c2 : Code := { maxStack := 4, maxLocals := 4, code := jdk_43_method_22_code, exceptionTable := #[], attributes := #[] }
def k9m2 : Method := { name := "indexOf", desc := "([BIII)I", sig := { parameters := [(.array .byte), .int, .int, .int], returnType := some .int }, accessFlags := 9, code := some k9c2 }
def k9c3 : Code := { maxStack := 2, maxLocals := 6, code := jdk_43_method_23_code, exceptionTable := #[], attributes := #[] }
def k9m3 : Method := { name := "indexOfChar", desc := "([BIII)I", sig := { parameters := [(.array .byte), .int, .int, .int], returnType := some .int }, accessFlags := 10, code := some k9c3 }
/-- java/lang/StringLatin1 -/
def k9 : Class := { plain "java/lang/StringLatin1" (some 0) with
  accessFlags := 48
  interfaces := #[]
  cf := some (fileOf pool9 14 #[.nestMembers #[390, 221]] #[{ accessFlags := 0, nameIndex := 7, descriptorIndex := 8, attributes := #[] }, { accessFlags := 9, nameIndex := 90, descriptorIndex := 91, attributes := #[] }, { accessFlags := 9, nameIndex := 101, descriptorIndex := 98, attributes := #[] }, { accessFlags := 10, nameIndex := 97, descriptorIndex := 98, attributes := #[] }] 48 4 #[] #[{ accessFlags := 4120, nameIndex := 121, descriptorIndex := 122, attributes := #[] }])
  fields := #[{ name := "$assertionsDisabled", type := .boolean, accessFlags := 4120, slot := 0, constantValue := 0 }]
  methods := #[k9m0, k9m1, k9m2, k9m3]
  instanceTypes := #[]
  staticTypes := #[.boolean]
  resolved := Array.replicate 395 none
  statics := none }

def pool10 : Array CpInfo := pool [(1, .class_ 2), (0, u "java/lang/Math"), (1, .class_ 6), (1, u "java/lang/Object"), (0, u "<init>"), (0, u "()V"), (89, .class_ 100), (1, u "java/lang/Math$RandomNumberGeneratorHolder"), (71, u "negativeZeroFloatBits"), (0, u "J"), (2, u "negativeZeroDoubleBits"), (21, u "max"), (2, u "min"), (43, u "$assertionsDisabled"), (0, u "Z"), (88, u "(II)I"), (2, u "twoToTheDoubleScaleDown"), (0, u "D"), (4, u "twoToTheDoubleScaleUp"), (9, u "E"), (3, u "PI"), (2, u "TAU"), (2, u "DEGREES_TO_RADIANS"), (0, u "RADIANS_TO_DEGREES")] 94

def k10m0 : Method := { name := "<init>", desc := "()V", sig := { parameters := [], returnType := none }, accessFlags := 2, code := none }
def k10c1 : Code := { maxStack := 2, maxLocals := 2, code := jdk_29_method_65_code, exceptionTable := #[], attributes := #[] }
def k10m1 : Method := { name := "max", desc := "(II)I", sig := { parameters := [.int, .int], returnType := some .int }, accessFlags := 9, code := some k10c1 }
def k10c2 : Code := { maxStack := 2, maxLocals := 2, code := jdk_29_method_69_code, exceptionTable := #[], attributes := #[] }
def k10m2 : Method := { name := "min", desc := "(II)I", sig := { parameters := [.int, .int], returnType := some .int }, accessFlags := 9, code := some k10c2 }
/-- java/lang/Math -/
def k10 : Class := { plain "java/lang/Math" (some 0) with
  accessFlags := 49
  interfaces := #[]
  cf := some (fileOf pool10 1 #[.nestMembers #[98]] #[{ accessFlags := 2, nameIndex := 7, descriptorIndex := 8, attributes := #[] }, { accessFlags := 9, nameIndex := 198, descriptorIndex := 335, attributes := #[] }, { accessFlags := 9, nameIndex := 201, descriptorIndex := 335, attributes := #[] }] 49 4 #[] #[{ accessFlags := 25, nameIndex := 354, descriptorIndex := 339, attributes := #[] }, { accessFlags := 25, nameIndex := 358, descriptorIndex := 339, attributes := #[] }, { accessFlags := 25, nameIndex := 361, descriptorIndex := 339, attributes := #[] }, { accessFlags := 26, nameIndex := 364, descriptorIndex := 339, attributes := #[] }, { accessFlags := 26, nameIndex := 365, descriptorIndex := 339, attributes := #[] }, { accessFlags := 26, nameIndex := 172, descriptorIndex := 173, attributes := #[] }, { accessFlags := 26, nameIndex := 176, descriptorIndex := 173, attributes := #[] }, { accessFlags := 8, nameIndex := 344, descriptorIndex := 339, attributes := #[] }, { accessFlags := 8, nameIndex := 338, descriptorIndex := 339, attributes := #[] }, { accessFlags := 4120, nameIndex := 245, descriptorIndex := 246, attributes := #[] }])
  fields := #[{ name := "E", type := .double, accessFlags := 25, slot := 0, constantValue := 0 }, { name := "PI", type := .double, accessFlags := 25, slot := 1, constantValue := 0 }, { name := "TAU", type := .double, accessFlags := 25, slot := 2, constantValue := 0 }, { name := "DEGREES_TO_RADIANS", type := .double, accessFlags := 26, slot := 3, constantValue := 0 }, { name := "RADIANS_TO_DEGREES", type := .double, accessFlags := 26, slot := 4, constantValue := 0 }, { name := "negativeZeroFloatBits", type := .long, accessFlags := 26, slot := 5, constantValue := 0 }, { name := "negativeZeroDoubleBits", type := .long, accessFlags := 26, slot := 6, constantValue := 0 }, { name := "twoToTheDoubleScaleUp", type := .double, accessFlags := 8, slot := 7, constantValue := 0 }, { name := "twoToTheDoubleScaleDown", type := .double, accessFlags := 8, slot := 8, constantValue := 0 }, { name := "$assertionsDisabled", type := .boolean, accessFlags := 4120, slot := 9, constantValue := 0 }]
  methods := #[k10m0, k10m1, k10m2]
  instanceTypes := #[]
  staticTypes := #[.double, .double, .double, .double, .double, .long, .long, .double, .double, .boolean]
  resolved := Array.replicate 460 none
  statics := none }

def pool11 : Array CpInfo := pool [(2, .class_ 4), (1, u "java/lang/Object"), (0, u "<init>"), (0, u "()V"), (17, .class_ 26), (1, u "jdk/internal/util/Preconditions"), (28, .class_ 56), (0, u "jdk/internal/util/Preconditions$4"), (57, .class_ 115), (0, u "jdk/internal/util/Preconditions$1"), (7, u "SIOOBE_FORMATTER"), (0, u "Ljava/util/function/BiFunction;"), (0, .class_ 126), (0, u "jdk/internal/util/Preconditions$2"), (3, u "AIOOBE_FORMATTER"), (0, .class_ 132), (0, u "jdk/internal/util/Preconditions$3"), (3, u "IOOBE_FORMATTER")] 57

def k11m0 : Method := { name := "<init>", desc := "()V", sig := { parameters := [], returnType := none }, accessFlags := 1, code := none }
/-- jdk/internal/util/Preconditions -/
def k11 : Class := { plain "jdk/internal/util/Preconditions" (some 0) with
  accessFlags := 33
  interfaces := #[]
  cf := some (fileOf pool11 24 #[.nestMembers #[55, 131, 125, 114]] #[{ accessFlags := 1, nameIndex := 5, descriptorIndex := 6, attributes := #[] }] 33 2 #[] #[{ accessFlags := 25, nameIndex := 123, descriptorIndex := 124, attributes := #[] }, { accessFlags := 25, nameIndex := 130, descriptorIndex := 124, attributes := #[] }, { accessFlags := 25, nameIndex := 136, descriptorIndex := 124, attributes := #[] }])
  fields := #[{ name := "SIOOBE_FORMATTER", type := (.object "java/util/function/BiFunction"), accessFlags := 25, slot := 0, constantValue := 0 }, { name := "AIOOBE_FORMATTER", type := (.object "java/util/function/BiFunction"), accessFlags := 25, slot := 1, constantValue := 0 }, { name := "IOOBE_FORMATTER", type := (.object "java/util/function/BiFunction"), accessFlags := 25, slot := 2, constantValue := 0 }]
  methods := #[k11m0]
  instanceTypes := #[]
  staticTypes := #[(.object "java/util/function/BiFunction"), (.object "java/util/function/BiFunction"), (.object "java/util/function/BiFunction")]
  resolved := Array.replicate 194 none
  statics := some 1 }

def pool12 : Array CpInfo := pool [(9, u "<init>"), (6, .class_ 18), (1, u "java/lang/Object"), (0, u "()V"), (1, .class_ 23), (1, u "jdk/internal/util/ArraysSupport"), (0, u "LOG2_ARRAY_LONG_INDEX_SCALE"), (0, u "I"), (2, u "U"), (0, u "Ljdk/internal/misc/Unsafe;"), (8, u "BIG_ENDIAN"), (0, u "Z"), (8, u "LOG2_BYTE_BIT_SIZE"), (4, u "LOG2_ARRAY_INT_INDEX_SCALE"), (54, u "JLA"), (0, u "Ljdk/internal/access/JavaLangAccess;"), (11, u "LOG2_ARRAY_BOOLEAN_INDEX_SCALE"), (9, u "LOG2_ARRAY_BYTE_INDEX_SCALE"), (5, u "LOG2_ARRAY_CHAR_INDEX_SCALE"), (5, u "LOG2_ARRAY_SHORT_INDEX_SCALE"), (18, u "LOG2_ARRAY_FLOAT_INDEX_SCALE"), (24, u "LOG2_ARRAY_DOUBLE_INDEX_SCALE"), (89, u "T_BOOLEAN"), (2, u "T_CHAR"), (1, u "T_FLOAT"), (1, u "T_DOUBLE"), (1, u "T_BYTE"), (1, u "T_SHORT"), (1, u "T_INT"), (1, u "T_LONG"), (1, u "SOFT_MAX_ARRAY_LENGTH")] 83

def k12m0 : Method := { name := "<init>", desc := "()V", sig := { parameters := [], returnType := none }, accessFlags := 2, code := none }
/-- jdk/internal/util/ArraysSupport -/
def k12 : Class := { plain "jdk/internal/util/ArraysSupport" (some 0) with
  accessFlags := 33
  interfaces := #[]
  cf := some (fileOf pool12 21 #[] #[{ accessFlags := 2, nameIndex := 9, descriptorIndex := 19, attributes := #[] }] 33 16 #[] #[{ accessFlags := 24, nameIndex := 28, descriptorIndex := 29, attributes := #[] }, { accessFlags := 26, nameIndex := 38, descriptorIndex := 39, attributes := #[] }, { accessFlags := 25, nameIndex := 121, descriptorIndex := 25, attributes := #[] }, { accessFlags := 25, nameIndex := 131, descriptorIndex := 25, attributes := #[] }, { accessFlags := 25, nameIndex := 137, descriptorIndex := 25, attributes := #[] }, { accessFlags := 25, nameIndex := 143, descriptorIndex := 25, attributes := #[] }, { accessFlags := 25, nameIndex := 53, descriptorIndex := 25, attributes := #[] }, { accessFlags := 25, nameIndex := 24, descriptorIndex := 25, attributes := #[] }, { accessFlags := 25, nameIndex := 162, descriptorIndex := 25, attributes := #[] }, { accessFlags := 25, nameIndex := 187, descriptorIndex := 25, attributes := #[] }, { accessFlags := 26, nameIndex := 48, descriptorIndex := 25, attributes := #[] }, { accessFlags := 25, nameIndex := 277, descriptorIndex := 25, attributes := #[] }, { accessFlags := 25, nameIndex := 280, descriptorIndex := 25, attributes := #[] }, { accessFlags := 25, nameIndex := 282, descriptorIndex := 25, attributes := #[] }, { accessFlags := 25, nameIndex := 284, descriptorIndex := 25, attributes := #[] }, { accessFlags := 25, nameIndex := 286, descriptorIndex := 25, attributes := #[] }, { accessFlags := 25, nameIndex := 288, descriptorIndex := 25, attributes := #[] }, { accessFlags := 25, nameIndex := 290, descriptorIndex := 25, attributes := #[] }, { accessFlags := 25, nameIndex := 292, descriptorIndex := 25, attributes := #[] }, { accessFlags := 26, nameIndex := 108, descriptorIndex := 109, attributes := #[] }, { accessFlags := 25, nameIndex := 294, descriptorIndex := 25, attributes := #[] }])
  fields := #[{ name := "U", type := (.object "jdk/internal/misc/Unsafe"), accessFlags := 24, slot := 0, constantValue := 0 }, { name := "BIG_ENDIAN", type := .boolean, accessFlags := 26, slot := 1, constantValue := 0 }, { name := "LOG2_ARRAY_BOOLEAN_INDEX_SCALE", type := .int, accessFlags := 25, slot := 2, constantValue := 0 }, { name := "LOG2_ARRAY_BYTE_INDEX_SCALE", type := .int, accessFlags := 25, slot := 3, constantValue := 0 }, { name := "LOG2_ARRAY_CHAR_INDEX_SCALE", type := .int, accessFlags := 25, slot := 4, constantValue := 0 }, { name := "LOG2_ARRAY_SHORT_INDEX_SCALE", type := .int, accessFlags := 25, slot := 5, constantValue := 0 }, { name := "LOG2_ARRAY_INT_INDEX_SCALE", type := .int, accessFlags := 25, slot := 6, constantValue := 0 }, { name := "LOG2_ARRAY_LONG_INDEX_SCALE", type := .int, accessFlags := 25, slot := 7, constantValue := 0 }, { name := "LOG2_ARRAY_FLOAT_INDEX_SCALE", type := .int, accessFlags := 25, slot := 8, constantValue := 0 }, { name := "LOG2_ARRAY_DOUBLE_INDEX_SCALE", type := .int, accessFlags := 25, slot := 9, constantValue := 0 }, { name := "LOG2_BYTE_BIT_SIZE", type := .int, accessFlags := 26, slot := 10, constantValue := 0 }, { name := "T_BOOLEAN", type := .int, accessFlags := 25, slot := 11, constantValue := 0 }, { name := "T_CHAR", type := .int, accessFlags := 25, slot := 12, constantValue := 0 }, { name := "T_FLOAT", type := .int, accessFlags := 25, slot := 13, constantValue := 0 }, { name := "T_DOUBLE", type := .int, accessFlags := 25, slot := 14, constantValue := 0 }, { name := "T_BYTE", type := .int, accessFlags := 25, slot := 15, constantValue := 0 }, { name := "T_SHORT", type := .int, accessFlags := 25, slot := 16, constantValue := 0 }, { name := "T_INT", type := .int, accessFlags := 25, slot := 17, constantValue := 0 }, { name := "T_LONG", type := .int, accessFlags := 25, slot := 18, constantValue := 0 }, { name := "JLA", type := (.object "jdk/internal/access/JavaLangAccess"), accessFlags := 26, slot := 19, constantValue := 0 }, { name := "SOFT_MAX_ARRAY_LENGTH", type := .int, accessFlags := 25, slot := 20, constantValue := 0 }]
  methods := #[k12m0]
  instanceTypes := #[]
  staticTypes := #[(.object "jdk/internal/misc/Unsafe"), .boolean, .int, .int, .int, .int, .int, .int, .int, .int, .int, .int, .int, .int, .int, .int, .int, .int, .int, (.object "jdk/internal/access/JavaLangAccess"), .int]
  resolved := Array.replicate 378 none
  statics := none }

def pool13 : Array CpInfo := pool [(1, u "java/lang/Cloneable"), (0, .class_ 1), (0, u "java/lang/Object"), (0, .class_ 3)] 3

/-- java/lang/Cloneable -/
def k13 : Class := { plain "java/lang/Cloneable" (some 0) with
  accessFlags := 1537
  interfaces := #[]
  cf := some (fileOf pool13 2 #[] #[] 1537 4 #[] #[])
  fields := #[]
  methods := #[]
  instanceTypes := #[]
  staticTypes := #[]
  resolved := Array.replicate 8 none
  statics := none }

/-- the primitive byte -/
def k14 : Class := { plain "byte" none with kind := .primitive 'B', accessFlags := 0x411 }
/-- [B -/
def k15 : Class := { plain "[B" (some 0) with kind := .array 14 .byte, interfaces := #[13, 3], accessFlags := 1041 }

/-- the primitive int -/
def k16 : Class := { plain "int" none with kind := .primitive 'I', accessFlags := 0x411 }
/-- [I -/
def k17 : Class := { plain "[I" (some 0) with kind := .array 16 .int, interfaces := #[13, 3], accessFlags := 1041 }

def heap : Heap := #[{ cls := 8, slots := #[.long 0, .int 1, .null, .int 0, .null, .int 0, .int 0], vm := .statics 8 },
  { cls := 11, slots := #[.null, .null, .null], vm := .statics 11 }]
def classes : Array Class := #[k0, k1, k2, k3, k4, k5, k6, k7, k8, k9, k10, k11, k12, k13, k14, k15, k16, k17]
def interned : List (Array UInt16 × Addr) := []
def slotsUsed : Nat := 10
def theMethod : MethodId := ⟨1, 3⟩
def args0 : Array Value := #[.int 5, .int 6]
def aboutOver (below : List Frame) : State where
  vm := { classes := classes, interned := interned.toArray }
  heap := heap
  slotsUsed := slotsUsed
  threads := #[{ frames := .invoking theMethod args0 :: below }]
def below0 : List Frame := [.native { method := ⟨0, 0⟩, args := #[] }]
def about1 : State := aboutOver below0
def p0 : Program := .bare "" "" ""
def e0 : Env := launch0.env 0 0 0
theorem w_frames : about1.frames = Frame.invoking theMethod args0 :: below0 := rfl
set_option maxRecDepth 65536 in
theorem w_args : argsFit about1.vm theMethod args0 = true := by decide +kernel
set_option maxRecDepth 65536 in
theorem w_heap : heapFits about1 = true := by decide +kernel
set_option maxRecDepth 65536 in
theorem w_runnable : about1.curStatus? = some .runnable := by decide +kernel
set_option maxRecDepth 65536 in
theorem w_alone : about1.alone = true := by decide +kernel
set_option maxRecDepth 65536 in
theorem w_named : about1.methodNamed? x = some theMethod := by decide +kernel
set_option maxRecDepth 65536 in
theorem w_hears : about1.hears theMethod below0 = true := by decide +kernel
set_option maxRecDepth 65536 in
theorem w_ripe : about1.ripe theMethod args0 below0 = true := by decide +kernel
theorem w_running : about1.status = .running := rfl
set_option maxRecDepth 65536 in
theorem w_room : about1.hasRoom e0.platform room_1 = true :=
  launch0.hasRoom_least _ room_1 (by decide +kernel) (by decide +kernel) (by decide +kernel) (by decide +kernel) (by decide +kernel) (by decide +kernel)
theorem allAtoms_all (ts : List Jvm.Cond) (a : Array Jvm.Value) (st : Jvm.State) : (allAtoms ts).before a st = ts.all (fun c => c.before a st) := by
  induction ts with
  | nil => rfl
  | cons c t ih =>
    show (Jvm.Cond.and c (allAtoms t)).before a st = _
    rw [Jvm.Cond.before_and, ih, List.all_cons]
def words1 : List Jvm.Cond := Jvm.Cond.code x code maxLocals ret :: tables_1
/-- a 'code' word, met by the world's own term for the bytes: nothing is compared byte by byte -/
theorem code_word {y : MethodName} {bytes : ByteArray} {mx : Nat} {rt : Option FieldType} {a : Array Value} {s : State} {m : MethodId} {meth : Method} {c : Code} (h1 : s.methodNamed? y = some m) (h2 : s.vm.method? m = some meth) (h3 : meth.code = some c) (h4 : c.code = bytes)
    (h5 : (c.maxLocals == mx && c.exceptionTable.isEmpty && decide (c.maxStack ≤ mostOperands) && decide (meth.sig.returnType = rt) && !meth.locks && decide (parseMethodDescriptor y.desc = some meth.sig)) = true) : (Jvm.Cond.code y bytes mx rt).before a s = true := by
  simp only [Bool.and_eq_true, beq_iff_eq, Bool.not_eq_true', decide_eq_true_eq] at h5
  obtain ⟨⟨⟨⟨⟨g1, g2⟩, g3⟩, g4⟩, g5⟩, g6⟩ := h5
  simp [Cond.before, Cond.holds, Cond.value, h1, h2, h3, h4, g1, g2, g3, g4, g5, g6]
def isCode : Jvm.Cond → Bool
  | .code _ _ _ _ => true
  | _ => false
theorem all_split {L : List Jvm.Cond} {P : Jvm.Cond → Bool} (h1 : L.all (fun c => isCode c || P c) = true) (h2 : ∀ c ∈ L.filter isCode, P c = true) : L.all P = true := by
  refine List.all_eq_true.mpr fun c hc => ?_
  have h := List.all_eq_true.mp h1 c hc
  rcases Bool.eq_false_or_eq_true (isCode c) with hi | hi
  · exact h2 c (List.mem_filter.mpr ⟨hc, hi⟩)
  · simpa [hi] using h
set_option maxRecDepth 65536 in
theorem w_c0 : (Jvm.Cond.code x code maxLocals ret).before args0 about1 = true := code_word (m := ⟨1, 3⟩) (meth := k1m3) (c := k1c3) (by decide +kernel) rfl rfl rfl (by decide +kernel)
set_option maxRecDepth 65536 in
theorem w_c1 : (Jvm.Cond.code ({ cls := "com/example/holdfast/holdfast/internal/HttpSyntax", name := "isTokenChar", desc := "(C)Z" } : Jvm.MethodName) prog_26_method_2_code (1 : Nat) (Option.some Jvm.ClassFile.FieldType.boolean)).before args0 about1 = true := code_word (m := ⟨2, 1⟩) (meth := k2m1) (c := k2c1) (by decide +kernel) rfl rfl rfl (by decide +kernel)
set_option maxRecDepth 65536 in
theorem w_c2 : (Jvm.Cond.code ({ cls := "java/lang/String", name := "indexOf", desc := "(I)I" } : Jvm.MethodName) jdk_42_method_79_code (2 : Nat) (Option.some Jvm.ClassFile.FieldType.int)).before args0 about1 = true := code_word (m := ⟨8, 2⟩) (meth := k8m2) (c := k8c2) (by decide +kernel) rfl rfl rfl (by decide +kernel)
set_option maxRecDepth 65536 in
theorem w_c3 : (Jvm.Cond.code ({ cls := "java/lang/String", name := "indexOf", desc := "(II)I" } : Jvm.MethodName) jdk_42_method_80_code (3 : Nat) (Option.some Jvm.ClassFile.FieldType.int)).before args0 about1 = true := code_word (m := ⟨8, 3⟩) (meth := k8m3) (c := k8c3) (by decide +kernel) rfl rfl rfl (by decide +kernel)
set_option maxRecDepth 65536 in
theorem w_c4 : (Jvm.Cond.code ({ cls := "java/lang/String", name := "isLatin1", desc := "()Z" } : Jvm.MethodName) jdk_42_method_154_code (1 : Nat) (Option.some Jvm.ClassFile.FieldType.boolean)).before args0 about1 = true := code_word (m := ⟨8, 5⟩) (meth := k8m5) (c := k8c5) (by decide +kernel) rfl rfl rfl (by decide +kernel)
set_option maxRecDepth 65536 in
theorem w_c5 : (Jvm.Cond.code ({ cls := "java/lang/String", name := "length", desc := "()I" } : Jvm.MethodName) jdk_42_method_54_code (1 : Nat) (Option.some Jvm.ClassFile.FieldType.int)).before args0 about1 = true := code_word (m := ⟨8, 1⟩) (meth := k8m1) (c := k8c1) (by decide +kernel) rfl rfl rfl (by decide +kernel)
set_option maxRecDepth 65536 in
theorem w_c6 : (Jvm.Cond.code ({ cls := "java/lang/String", name := "coder", desc := "()B" } : Jvm.MethodName) jdk_42_method_152_code (1 : Nat) (Option.some Jvm.ClassFile.FieldType.byte)).before args0 about1 = true := code_word (m := ⟨8, 4⟩) (meth := k8m4) (c := k8c4) (by decide +kernel) rfl rfl rfl (by decide +kernel)
set_option maxRecDepth 65536 in
theorem w_c7 : (Jvm.Cond.code ({ cls := "java/lang/StringLatin1", name := "indexOf", desc := "([BIII)I" } : Jvm.MethodName) jdk_43_method_22_code (4 : Nat) (Option.some Jvm.ClassFile.FieldType.int)).before args0 about1 = true := code_word (m := ⟨9, 2⟩) (meth := k9m2) (c := k9c2) (by decide +kernel) rfl rfl rfl (by decide +kernel)
set_option maxRecDepth 65536 in
theorem w_c8 : (Jvm.Cond.code ({ cls := "java/lang/StringLatin1", name := "canEncode", desc := "(I)Z" } : Jvm.MethodName) jdk_43_method_4_code (1 : Nat) (Option.some Jvm.ClassFile.FieldType.boolean)).before args0 about1 = true := code_word (m := ⟨9, 1⟩) (meth := k9m1) (c := k9c1) (by decide +kernel) rfl rfl rfl (by decide +kernel)
set_option maxRecDepth 65536 in
theorem w_c9 : (Jvm.Cond.code ({ cls := "java/lang/Math", name := "max", desc := "(II)I" } : Jvm.MethodName) jdk_29_method_65_code (2 : Nat) (Option.some Jvm.ClassFile.FieldType.int)).before args0 about1 = true := code_word (m := ⟨10, 1⟩) (meth := k10m1) (c := k10c1) (by decide +kernel) rfl rfl rfl (by decide +kernel)
set_option maxRecDepth 65536 in
theorem w_c10 : (Jvm.Cond.code ({ cls := "java/lang/Math", name := "min", desc := "(II)I" } : Jvm.MethodName) jdk_29_method_69_code (2 : Nat) (Option.some Jvm.ClassFile.FieldType.int)).before args0 about1 = true := code_word (m := ⟨10, 2⟩) (meth := k10m2) (c := k10c2) (by decide +kernel) rfl rfl rfl (by decide +kernel)
set_option maxRecDepth 65536 in
theorem w_c11 : (Jvm.Cond.code ({ cls := "java/lang/StringLatin1", name := "indexOfChar", desc := "([BIII)I" } : Jvm.MethodName) jdk_43_method_23_code (6 : Nat) (Option.some Jvm.ClassFile.FieldType.int)).before args0 about1 = true := code_word (m := ⟨9, 3⟩) (meth := k9m3) (c := k9c3) (by decide +kernel) rfl rfl rfl (by decide +kernel)
set_option maxRecDepth 65536 in
theorem w_c12 : (Jvm.Cond.code ({ cls := "com/example/holdfast/holdfast/internal/HttpSyntaxIsTokenCharPinLaw", name := "expected", desc := "(C)Z" } : Jvm.MethodName) method_3_code (1 : Nat) (Option.some Jvm.ClassFile.FieldType.boolean)).before args0 about1 = true := code_word (m := ⟨1, 2⟩) (meth := k1m2) (c := k1c2) (by decide +kernel) rfl rfl rfl (by decide +kernel)
set_option maxRecDepth 65536 in
theorem w_c13 : (Jvm.Cond.code ({ cls := "com/example/holdfast/holdfast/internal/HttpSyntaxIsTokenCharPinLaw", name := "isDelimiter", desc := "(C)Z" } : Jvm.MethodName) method_2_code (1 : Nat) (Option.some Jvm.ClassFile.FieldType.boolean)).before args0 about1 = true := code_word (m := ⟨1, 1⟩) (meth := k1m1) (c := k1c1) (by decide +kernel) rfl rfl rfl (by decide +kernel)
def codes1 : List Jvm.Cond := [Jvm.Cond.code x code maxLocals ret, Jvm.Cond.code ({ cls := "com/example/holdfast/holdfast/internal/HttpSyntax", name := "isTokenChar", desc := "(C)Z" } : Jvm.MethodName) prog_26_method_2_code (1 : Nat) (Option.some Jvm.ClassFile.FieldType.boolean), Jvm.Cond.code ({ cls := "java/lang/String", name := "indexOf", desc := "(I)I" } : Jvm.MethodName) jdk_42_method_79_code (2 : Nat) (Option.some Jvm.ClassFile.FieldType.int), Jvm.Cond.code ({ cls := "java/lang/String", name := "indexOf", desc := "(II)I" } : Jvm.MethodName) jdk_42_method_80_code (3 : Nat) (Option.some Jvm.ClassFile.FieldType.int), Jvm.Cond.code ({ cls := "java/lang/String", name := "isLatin1", desc := "()Z" } : Jvm.MethodName) jdk_42_method_154_code (1 : Nat) (Option.some Jvm.ClassFile.FieldType.boolean), Jvm.Cond.code ({ cls := "java/lang/String", name := "length", desc := "()I" } : Jvm.MethodName) jdk_42_method_54_code (1 : Nat) (Option.some Jvm.ClassFile.FieldType.int), Jvm.Cond.code ({ cls := "java/lang/String", name := "coder", desc := "()B" } : Jvm.MethodName) jdk_42_method_152_code (1 : Nat) (Option.some Jvm.ClassFile.FieldType.byte), Jvm.Cond.code ({ cls := "java/lang/StringLatin1", name := "indexOf", desc := "([BIII)I" } : Jvm.MethodName) jdk_43_method_22_code (4 : Nat) (Option.some Jvm.ClassFile.FieldType.int), Jvm.Cond.code ({ cls := "java/lang/StringLatin1", name := "canEncode", desc := "(I)Z" } : Jvm.MethodName) jdk_43_method_4_code (1 : Nat) (Option.some Jvm.ClassFile.FieldType.boolean), Jvm.Cond.code ({ cls := "java/lang/Math", name := "max", desc := "(II)I" } : Jvm.MethodName) jdk_29_method_65_code (2 : Nat) (Option.some Jvm.ClassFile.FieldType.int), Jvm.Cond.code ({ cls := "java/lang/Math", name := "min", desc := "(II)I" } : Jvm.MethodName) jdk_29_method_69_code (2 : Nat) (Option.some Jvm.ClassFile.FieldType.int), Jvm.Cond.code ({ cls := "java/lang/StringLatin1", name := "indexOfChar", desc := "([BIII)I" } : Jvm.MethodName) jdk_43_method_23_code (6 : Nat) (Option.some Jvm.ClassFile.FieldType.int), Jvm.Cond.code ({ cls := "com/example/holdfast/holdfast/internal/HttpSyntaxIsTokenCharPinLaw", name := "expected", desc := "(C)Z" } : Jvm.MethodName) method_3_code (1 : Nat) (Option.some Jvm.ClassFile.FieldType.boolean), Jvm.Cond.code ({ cls := "com/example/holdfast/holdfast/internal/HttpSyntaxIsTokenCharPinLaw", name := "isDelimiter", desc := "(C)Z" } : Jvm.MethodName) method_2_code (1 : Nat) (Option.some Jvm.ClassFile.FieldType.boolean)]
set_option maxRecDepth 65536 in
theorem codes_eq : words1.filter isCode = codes1 := rfl
theorem w_codes : ∀ c ∈ words1.filter isCode, c.before args0 about1 = true := by
  rw [codes_eq]
  intro c hc
  simp only [codes1, List.mem_cons, List.not_mem_nil, or_false] at hc
  rcases hc with rfl | rfl | rfl | rfl | rfl | rfl | rfl | rfl | rfl | rfl | rfl | rfl | rfl | rfl
  · exact w_c0
  · exact w_c1
  · exact w_c2
  · exact w_c3
  · exact w_c4
  · exact w_c5
  · exact w_c6
  · exact w_c7
  · exact w_c8
  · exact w_c9
  · exact w_c10
  · exact w_c11
  · exact w_c12
  · exact w_c13
set_option maxRecDepth 65536 in
theorem w_t1 : (words1.take 24).all (fun c => isCode c || c.before args0 about1) = true := by decide +kernel
set_option maxRecDepth 65536 in
theorem w_t2 : ((words1.drop 24).take 24).all (fun c => isCode c || c.before args0 about1) = true := by decide +kernel
set_option maxRecDepth 65536 in
theorem w_t3 : ((words1.drop 24).drop 24).all (fun c => isCode c || c.before args0 about1) = true := by decide +kernel
theorem w_tables : (allAtoms (Jvm.Cond.code x code maxLocals ret :: tables_1)).before args0 about1 = true := by
  rw [allAtoms_all]
  show words1.all (fun c => c.before args0 about1) = true
  refine all_split ?_ w_codes
  rw [← List.take_append_drop 24 words1, List.all_append, w_t1, ← List.take_append_drop 24 (words1.drop 24), List.all_append, w_t2, w_t3]
  rfl
set_option maxRecDepth 65536 in
theorem w_rest : rest_1_c.before args0 about1 = true := by decide +kernel
set_option maxRecDepth 65536 in
theorem w_case : (Jvm.Cond.and given_1 narrow_1).before args0 about1 = true := by decide +kernel
set_option maxRecDepth 65536 in
theorem w_consts : constsHeld consts_1 about1 := Jvm.Lit.constsHeldB_iff.mp (by decide +kernel)
theorem w_applies : (headSpec (Jvm.Cond.code x code maxLocals ret :: tables_1) room_1).applies x e0.platform about1 = true :=
  (Spec.applies_iff w_frames).mpr ⟨w_running, w_runnable, w_alone, w_named, w_hears, w_ripe, w_room, w_tables⟩
theorem atStart : AtStart classFile x code maxLocals ret World_1 tables_1 room_1 Calls_1 rest_1 Pre_1 launch0 p0 e0 about1 theMethod args0 below0 :=
  ⟨lists_1, trivial, launch0.admits_env _ _ _, launch0.least_env, fairChoices_fair.cas, fairChoices_fair.clock, w_frames, w_args, w_heap, w_applies, ⟨w_consts, trivial⟩, w_rest, w_case⟩
end start1
theorem witness_1 : WitnessClaimed_1 := ⟨start1.p0, start1.e0, start1.about1, start1.theMethod, start1.args0, start1.below0, start1.atStart⟩
end Jvm.Pilot.@@N@@
