import JvmDerived
import JvmDerived.Pilot.@@N@@Statement
import JvmDerived.Pilot.@@N@@Code
set_option linter.unusedVariables false
set_option linter.unusedSimpArgs false
namespace Jvm.RoadKit
open Sem ClassFile Op Lib Jvm.Stand Jvm.Free Jvm.LawKit
section New
variable {p : Program} {l : Launch} {e : Env} {R : Room} {s : State} {m : MethodId} {args : Array Value} {below : List Frame} {meth : Method} {c : Code} {T : State} {locs : List Loc} {cells slots : Nat}
theorem retI (X : Stand p l e R s m args below meth c T locs cells slots) (hx : p.tables.exec = Jvm.exec) {pc : Nat} {Ls : Array Slot} {z : Int32} {rest : List Value} (hret : meth.sig.returnType = some .int) (hd : decode c.code pc = .ok (.ireturn, 1)) {fs : List Frame}
    (hl : ∀ (f : JFrame) (acts : List Action), f.method = m → f.locked = none → f.entered = [] → (doReturn e (T.setTop f) acts (some (.int z))).1 = T.setFrames fs) : Steps p.tables e below (T.setTop (mkF m pc Ls (.int z :: rest))) (T.setFrames fs) := by
  have hm' : T.vm.method? m = some meth := X.method'
  have hn : narrow .int (.int z) = .int z := rfl
  show Steps p.tables e below (T.setTop { method := m, pc := pc, locals := Ls, stack := _ :: rest, locked := none }) _
  jvm_step X.here [X.here.top, hx, hd, hm', hret, hn]
  first | (intro acts; rw [hl _ acts rfl rfl rfl]) | rw [hl _ _ rfl rfl rfl]
  exact Steps.refl _
end New
end Jvm.RoadKit
@@BLOCK:NumsL.lean.txt@@
@@BLOCK:Masks.lean.txt@@
namespace Jvm.Pilot.@@N@@
open Jvm Jvm.ClassFile Sem Op Lib Jvm.Free Jvm.Stand Jvm.LawKit Jvm.RoadKit Bundle Jvm.Pilot.@@N@@.Jvm.D
def own_End (p : Program) (e : Env) (below : List Frame) (P : Outcome → State → Prop) (S : State) : Prop :=
  ∃ s₂ o, Steps p.tables e below S s₂ ∧ s₂.status = .running ∧ Ended s₂ below o ∧ P o s₂
abbrev own_Met (l : Launch) (Z : State) (y : MethodName) (bytes : ByteArray) (maxL : Nat) (rt : Option FieldType) (ws : List Jvm.Cond) (rm : Room) (as' : Array Value) (h0 : Heap) (Q : Option Value → Heap → List Loc → Prop) : Prop :=
  MetFree l y (head1 (Jvm.Cond.code y bytes maxL rt :: ws) rm) (fun a U => a = as' ∧ Z.Warmed39 U.vm ∧ U.heap = h0) (fun _ _ _ _ _ => True) (fun _ U o U' => ∃ v L, o = .returned v ∧ Q v U'.heap L ∧ FrameEnd U o U' L rm.cells rm.slots)
def own_Ok (Q : Option Value → Heap → List Loc → Prop) (s : State) (kc ks : Nat) (P : Outcome → State → Prop) : Prop := ∀ v U L, Q v U.heap L → FrameEnd s (.returned v) U L kc ks → P (.returned v) U
section Own
variable {p : Program} {l : Launch} {e : Env} {R : Room} {s : State} {m : MethodId} {args : Array Value} {below : List Frame} {meth : Method} {c : Code} {T : State} {locs : List Loc} {cells slots : Nat} {Z : State} {a0 : Array Value} {h : Heap} {P : Outcome → State → Prop}
theorem own_st {S S' : State} (q : ∀ t, Steps p.tables e below S' t → Steps p.tables e below S t) (k : own_End p e below P S') : own_End p e below P S := by
  obtain ⟨a, b, c, d⟩ := k
  exact ⟨a, b, q _ c, d⟩
theorem own_tr {S S' : State} (q : Steps p.tables e below S S') (k : own_End p e below P S') : own_End p e below P S := own_st (fun _ r => q.trans r) k
theorem own_enter {y : MethodName} {bytes : ByteArray} {maxL : Nat} {rt : Option FieldType} {ws : List Jvm.Cond} {rm : Room} {as' : Array Value} {h0 : Heap} {Q : Option Value → Heap → List Loc → Prop} (hpl : plainFor y = true)
    (body : ∀ (p : Program) (e : Env) (s : State) (m : MethodId) (below : List Frame) (meth : Method) (c : Code) (s₁ : State) (P : Outcome → State → Prop), p.tables.exec = Jvm.exec → c.code = bytes → c.maxLocals = maxL → meth.sig.returnType = rt → meth.locks = false → s.vm.findClass y.cls = some m.cls → meth.name = y.name → Z.Warmed39 s.vm →
      Stand p l e rm s m as' below meth c s₁ [] 0 0 → s₁.heap = h0 → own_Ok Q s rm.cells rm.slots P → own_End p e below P (s₁.setTop (entryFrame m as' maxL))) :
    own_Met l Z y bytes maxL rt ws rm as' h0 Q := by
  refine MetFree.of_bodySF hpl hisR ?_
  intro p e s m args below meth c s₁ Bd hml0 hP hK
  obtain ⟨rfl, hZ, hh⟩ := hP
  exact body p e s m below meth c s₁ _ Bd.exec Bd.bytes hml0 Bd.returns Bd.notSynchronized (findClass_of_methodNamed Bd.named) (name_of_methodNamed Bd.named Bd.method).1 hZ (Stand.of_body Bd) (by rw [← hh, Bd.state]; rfl) (fun v U L q f => ⟨v, L, rfl, q, f⟩)
theorem own_cast {g g' : JFrame} (q : g = g') (k : own_End p e below P (T.setTop g')) : own_End p e below P (T.setTop g) := q ▸ k
theorem own_retI (X : Stand p l e R s m args below meth c T locs cells slots) (hx : p.tables.exec = Jvm.exec) (hlk : meth.locks = false) {kc ks : Nat} {Q : Option Value → Heap → List Loc → Prop} (hP : own_Ok Q s kc ks P)
    {pc : Nat} {Ls : Array Slot} {z : Int32} {rest : List Value} (hret : meth.sig.returnType = some .int) (hd : decode c.code pc = .ok (.ireturn, 1)) (h1 : cells ≤ kc) (h2 : slots ≤ ks) (hq : Q (some (.int z)) T.heap locs) : own_End p e below P (T.setTop (mkF m pc Ls (.int z :: rest))) := by
  obtain ⟨fs, hr, hrun, hended, hW, hsame⟩ := X.leave (v := some (.int z)) (fun h => by rw [hret] at h; cases h) hlk
  exact ⟨_, _, retI X hx hret hd hr, hrun, hended, hP _ _ locs hq ⟨⟨_, rfl⟩, hW, hsame.mono h1 h2⟩⟩
theorem own_retN (X : Stand p l e R s m args below meth c T locs cells slots) (hx : p.tables.exec = Jvm.exec) (hlk : meth.locks = false) {kc ks : Nat} {Q : Option Value → Heap → List Loc → Prop} (hP : own_Ok Q s kc ks P)
    {pc : Nat} {Ls : Array Slot} {z : Int32} {t : FieldType} {rest : List Value} (ht : t = .boolean ∨ t = .byte ∨ t = .char ∨ t = .short) (hret : meth.sig.returnType = some t) (hd : decode c.code pc = .ok (.ireturn, 1)) (h1 : cells ≤ kc) (h2 : slots ≤ ks) (hq : Q (some (.int (nar t z))) T.heap locs) : own_End p e below P (T.setTop (mkF m pc Ls (.int z :: rest))) := by
  obtain ⟨fs, hr, hrun, hended, hW, hsame⟩ := X.leave (v := some (.int (nar t z))) (fun h => by rw [hret] at h; cases h) hlk
  exact ⟨_, _, retN X hx hret ht hd hr, hrun, hended, hP _ _ locs hq ⟨⟨_, rfl⟩, hW, hsame.mono h1 h2⟩⟩
theorem own_retL (X : Stand p l e R s m args below meth c T locs cells slots) (hx : p.tables.exec = Jvm.exec) (hlk : meth.locks = false) {kc ks : Nat} {Q : Option Value → Heap → List Loc → Prop} (hP : own_Ok Q s kc ks P)
    {pc : Nat} {Ls : Array Slot} {z : Int64} {rest : List Value} (hret : meth.sig.returnType = some .long) (hd : decode c.code pc = .ok (.lreturn, 1)) (h1 : cells ≤ kc) (h2 : slots ≤ ks) (hq : Q (some (.long z)) T.heap locs) : own_End p e below P (T.setTop (mkF m pc Ls (.long z :: rest))) := by
  obtain ⟨fs, hr, hrun, hended, hW, hsame⟩ := X.leave (v := some (.long z)) (fun h => by rw [hret] at h; cases h) hlk
  exact ⟨_, _, retOut X hx hret rfl (Or.inr (Or.inl ⟨rfl, rfl, z, rfl⟩)) hd hr, hrun, hended, hP _ _ locs hq ⟨⟨_, rfl⟩, hW, hsame.mono h1 h2⟩⟩
theorem own_retR (X : Stand p l e R s m args below meth c T locs cells slots) (hx : p.tables.exec = Jvm.exec) (hlk : meth.locks = false) {kc ks : Nat} {Q : Option Value → Heap → List Loc → Prop} (hP : own_Ok Q s kc ks P)
    {pc : Nat} {Ls : Array Slot} {w : Value} {t : FieldType} {rest : List Value} (hw : w.isRef = true) (ht : t.isReference = true) (hret : meth.sig.returnType = some t) (hd : decode c.code pc = .ok (.areturn, 1)) (h1 : cells ≤ kc) (h2 : slots ≤ ks) (hq : Q (some w) T.heap locs) : own_End p e below P (T.setTop (mkF m pc Ls (w :: rest))) := by
  obtain ⟨fs, hr, hrun, hended, hW, hsame⟩ := X.leave (v := some w) (fun h => by rw [hret] at h; cases h) hlk
  have hn : narrow t w = w := by rcases ref_cases hw with rfl | ⟨a, rfl⟩ <;> cases t <;> rfl
  exact ⟨_, _, retOut X hx hret hn (Or.inr (Or.inr (Or.inr (Or.inr ⟨rfl, ht, hw⟩)))) hd hr, hrun, hended, hP _ _ locs hq ⟨⟨_, rfl⟩, hW, hsame.mono h1 h2⟩⟩
theorem own_retV (X : Stand p l e R s m args below meth c T locs cells slots) (hx : p.tables.exec = Jvm.exec) (hlk : meth.locks = false) {kc ks : Nat} {Q : Option Value → Heap → List Loc → Prop} (hP : own_Ok Q s kc ks P)
    {pc : Nat} {Ls : Array Slot} (hret : meth.sig.returnType = none) (hd : decode c.code pc = .ok (.return_, 1)) (h1 : cells ≤ kc) (h2 : slots ≤ ks) (hq : Q none T.heap locs) : own_End p e below P (T.setTop (mkF m pc Ls [])) := by
  obtain ⟨fs, hr, hrun, hended, hW, hsame⟩ := X.leave (v := none) (fun _ => rfl) hlk
  exact ⟨_, _, X.returnOut hx hret hd hr, hrun, hended, hP _ _ locs hq ⟨⟨_, rfl⟩, hW, hsame.mono h1 h2⟩⟩
theorem own_callS (X : Stand p l e R s m args below meth c T locs cells slots) (hx : p.tables.exec = Jvm.exec) (hZ : Z.Warmed39 s.vm) {own : String} {index : Nat} {y : MethodName} {bytes : ByteArray} {maxL : Nat} {rt : Option FieldType} {rm : Room} {as' : Array Value} {Q : Option Value → Heap → List Loc → Prop}
    (hown : s.vm.findClass own = some m.cls) (w1 : (Jvm.Cond.methodLink own index y).before a0 Z = true) (w2 : (Jvm.Cond.static y).before a0 Z = true) (w3 : (Jvm.Cond.initialized y.cls).before a0 Z = true) (w4 : (Jvm.Cond.code y bytes maxL rt).before a0 Z = true) (hy : y.cls ≠ "java/lang/invoke/MethodHandle" ∧ y.cls ≠ "java/lang/invoke/VarHandle")
    (hM : own_Met l Z y bytes maxL rt [] rm as' h Q) (W : Nat) (hf : rm.frames + 1 ≤ R.frames) (hl : W + (maxL + 11) + rm.locals ≤ R.locals) (eT : T.heap = h) (hc : cells + rm.cells ≤ R.cells) (hs : slots + rm.slots ≤ R.slots)
    {g : JFrame} (hg : g.method = m) (hsize : g.locals.size = c.maxLocals) {argsL rest : List Value} (ha : argsL.toArray = as') (hlen : ∀ sig, parseMethodDescriptor y.desc = some sig → argsL.length = sig.parameters.length) (hstack : g.stack = argsL.reverse ++ rest) (hW : 2 * g.monitorRoom + (rest.map fun v => v.category).sum ≤ W) (hdg : decode c.code g.pc = .ok (.invokestatic index, 3))
    (k : ∀ v T' L, Stand p l e R s m args below meth c T' (locs ++ L) (cells + rm.cells) (slots + rm.slots) → Q v T'.heap L → own_End p e below P (T'.setTop { g with pc := g.pc + 3, stack := v.toList ++ rest })) : own_End p e below P (T.setTop g) := by
  obtain ⟨v, vm₁, ⟨T', L', k', n'⟩, -, X', ⟨L, hQ, h1, h2, h3⟩, st⟩ := Jvm.LawKit.callS X hx hown (mvT hZ w1) (mvT hZ w2) (mvT hZ w3) (mvT hZ w4) hy (backOf (W := W) hM hZ w4 w3 hf hl) hg hsize hlen hstack hW hdg (fun _ _ => ⟨ha, eT, hc, hs⟩)
  dsimp only [Pt.U, Pt.locs, Pt.cells, Pt.slots] at X' h1 h2 h3 st hQ
  subst h1 h2 h3
  exact own_st st (k v T' L X' hQ)
theorem own_callI (X : Stand p l e R s m args below meth c T locs cells slots) (hx : p.tables.exec = Jvm.exec) (hZ : Z.Warmed39 s.vm) {own : String} {index : Nat} {y : MethodName} {bytes : ByteArray} {maxL : Nat} {rm : Room} {as' : Array Value} {Q : Option Value → Heap → List Loc → Prop}
    (hy1 : y.name = "<init>") (hown : s.vm.findClass own = some m.cls) (w1 : (Jvm.Cond.methodLink own index y).before a0 Z = true) (w2 : (Jvm.Cond.instanceMethod y).before a0 Z = true) (w3 : (Jvm.Cond.initialized y.cls).before a0 Z = true) (w4 : (Jvm.Cond.code y bytes maxL none).before a0 Z = true) (hy : y.cls ≠ "java/lang/invoke/MethodHandle" ∧ y.cls ≠ "java/lang/invoke/VarHandle")
    (hM : own_Met l Z y bytes maxL none [] rm as' h Q) (W : Nat) (hf : rm.frames + 1 ≤ R.frames) (hl : W + (maxL + 11) + rm.locals ≤ R.locals) (eT : T.heap = h) (hc : cells + rm.cells ≤ R.cells) (hs : slots + rm.slots ≤ R.slots)
    {g : JFrame} (hg : g.method = m) (hsize : g.locals.size = c.maxLocals) {a : Addr} {argsL rest : List Value} (ha : (Value.ref a :: argsL).toArray = as') (hlen : ∀ sig, parseMethodDescriptor y.desc = some sig → argsL.length = sig.parameters.length) (hstack : g.stack = argsL.reverse ++ .ref a :: rest) (hW : 2 * g.monitorRoom + (rest.map fun v => v.category).sum ≤ W) (hdg : decode c.code g.pc = .ok (.invokespecial index, 3))
    (k : ∀ v T' L, Stand p l e R s m args below meth c T' (locs ++ L) (cells + rm.cells) (slots + rm.slots) → Q v T'.heap L → own_End p e below P (T'.setTop { g with pc := g.pc + 3, stack := v.toList ++ rest })) : own_End p e below P (T.setTop g) := by
  obtain ⟨v, vm₁, ⟨T', L', k', n'⟩, -, X', ⟨L, hQ, h1, h2, h3⟩, st⟩ := X.specialBack hx hy1 hown (mvT hZ w1) (mvT hZ w2) (mvT hZ w4) hy (backOf (W := W) hM hZ w4 w3 hf hl) hg hsize (Steps.refl _) hlen hstack hW hdg (fun _ _ => ⟨ha, eT, hc, hs⟩)
  dsimp only [Pt.U, Pt.locs, Pt.cells, Pt.slots] at X' h1 h2 h3 st hQ
  subst h1 h2 h3
  exact own_tr st (k v T' L X' hQ)
theorem own_callV (X : Stand p l e R s m args below meth c T locs cells slots) (hx : p.tables.exec = Jvm.exec) (hZ : Z.Warmed39 s.vm) {own C : String} {index : Nat} {y z : MethodName} {bytes : ByteArray} {maxL : Nat} {rt : Option FieldType} {rm : Room} {as' : Array Value} {Q : Option Value → Heap → List Loc → Prop}
    (hown : s.vm.findClass own = some m.cls) (w1 : (Jvm.Cond.methodLink own index y).before a0 Z = true) (w2 : (Jvm.Cond.declares y).before a0 Z = true) (hnf : NotFace s y) (w5 : (Jvm.Cond.selects C y z).before a0 Z = true) (w6 : (Jvm.Cond.instanceMethod z).before a0 Z = true) (w3 : (Jvm.Cond.initialized z.cls).before a0 Z = true) (w4 : (Jvm.Cond.code z bytes maxL rt).before a0 Z = true) (hy : y.cls ≠ "java/lang/invoke/MethodHandle" ∧ y.cls ≠ "java/lang/invoke/VarHandle")
    {a : Addr} (E : Exa Z h a C) (hM : own_Met l Z z bytes maxL rt [] rm as' h Q) (W : Nat) (hf : rm.frames + 1 ≤ R.frames) (hl : W + (maxL + 11) + rm.locals ≤ R.locals) (eT : T.heap = h) (hc : cells + rm.cells ≤ R.cells) (hs : slots + rm.slots ≤ R.slots)
    {g : JFrame} (hg : g.method = m) (hsize : g.locals.size = c.maxLocals) {argsL rest : List Value} (ha : (Value.ref a :: argsL).toArray = as') (hlen : ∀ sig, parseMethodDescriptor y.desc = some sig → argsL.length = sig.parameters.length) (hstack : g.stack = argsL.reverse ++ .ref a :: rest) (hW : 2 * g.monitorRoom + (rest.map fun v => v.category).sum ≤ W) (hdg : decode c.code g.pc = .ok (.invokevirtual index, 3))
    (k : ∀ v T' L, Stand p l e R s m args below meth c T' (locs ++ L) (cells + rm.cells) (slots + rm.slots) → Q v T'.heap L → own_End p e below P (T'.setTop { g with pc := g.pc + 3, stack := v.toList ++ rest })) : own_End p e below P (T.setTop g) := by
  obtain ⟨cB, kB, q1, q2, q3⟩ := isOf hZ eT E
  obtain ⟨v, vm₁, ⟨T', L', k', n'⟩, -, X', ⟨L, hQ, h1, h2, h3⟩, st⟩ := X.virtualBack hx (y := y) (z := z) hown (mvT hZ w1) (mvT hZ w2) hnf (mvT hZ w5) (mvT hZ w6) hy (backOf (W := W) hM hZ w4 w3 hf hl) q1 q3 hg hsize (Steps.refl _) hlen hstack hW hdg (fun _ _ => ⟨ha, eT, hc, hs⟩)
  dsimp only [Pt.U, Pt.locs, Pt.cells, Pt.slots] at X' h1 h2 h3 st hQ
  subst h1 h2 h3
  exact own_tr st (k v T' L X' hQ)
theorem own_callU (X : Stand p l e R s m args below meth c T locs cells slots) (hx : p.tables.exec = Jvm.exec) (hZ : Z.Warmed39 s.vm) {own C owner : String} {index : Nat} {x y : MethodName} {bytes : ByteArray} {maxL : Nat} {rt : Option FieldType} {rm : Room} {as' : Array Value} {Q : Option Value → Heap → List Loc → Prop}
    (hown : s.vm.findClass own = some m.cls) (w1 : (Jvm.Cond.methodLink own index x).before a0 Z = true) (w2 : (Jvm.Cond.sameMethod x.cls owner x.name x.desc).before a0 Z = true) (w7 : (Jvm.Cond.declares ⟨owner, x.name, x.desc⟩).before a0 Z = true) (hy : owner ≠ "java/lang/invoke/MethodHandle" ∧ owner ≠ "java/lang/invoke/VarHandle") (w5 : (Jvm.Cond.selects C x y).before a0 Z = true) (w6 : (Jvm.Cond.instanceMethod y).before a0 Z = true) (w3 : (Jvm.Cond.initialized y.cls).before a0 Z = true) (w4 : (Jvm.Cond.code y bytes maxL rt).before a0 Z = true)
    {a : Addr} (E : Exa Z h a C) (hM : own_Met l Z y bytes maxL rt [] rm as' h Q) (W : Nat) (hf : rm.frames + 1 ≤ R.frames) (hl : W + (maxL + 11) + rm.locals ≤ R.locals) (eT : T.heap = h) (hc : cells + rm.cells ≤ R.cells) (hs : slots + rm.slots ≤ R.slots)
    {g : JFrame} (hg : g.method = m) (hsize : g.locals.size = c.maxLocals) {argsL rest : List Value} (ha : (Value.ref a :: argsL).toArray = as') (hlen : ∀ sig, parseMethodDescriptor x.desc = some sig → argsL.length = sig.parameters.length) (hstack : g.stack = argsL.reverse ++ .ref a :: rest) (hW : 2 * g.monitorRoom + (rest.map fun v => v.category).sum ≤ W) (hdg : decode c.code g.pc = .ok (.invokevirtual index, 3))
    (k : ∀ v T' L, Stand p l e R s m args below meth c T' (locs ++ L) (cells + rm.cells) (slots + rm.slots) → Q v T'.heap L → own_End p e below P (T'.setTop { g with pc := g.pc + 3, stack := v.toList ++ rest })) : own_End p e below P (T.setTop g) := by
  obtain ⟨cB, kB, q1, q2, q3⟩ := isOf hZ eT E
  obtain ⟨v, vm₁, ⟨T', L', k', n'⟩, -, X', ⟨L, hQ, h1, h2, h3⟩, st⟩ := X.virtualBackUp hx (x := x) (y := y) hown (mvT hZ w1) (mvT hZ w2) (mvT hZ w7) hy (mvT hZ w5) (mvT hZ w6) (backOf (W := W) hM hZ w4 w3 hf hl) q1 q3 hg hsize (Steps.refl _) hlen hstack hW hdg (fun _ _ => ⟨ha, eT, hc, hs⟩)
  dsimp only [Pt.U, Pt.locs, Pt.cells, Pt.slots] at X' h1 h2 h3 st hQ
  subst h1 h2 h3
  exact own_tr st (k v T' L X' hQ)
theorem own_sel {y z : MethodName} (hz : z.cls = y.cls) (hy : y.cls ≠ "java/lang/invoke/MethodHandle" ∧ y.cls ≠ "java/lang/invoke/VarHandle") (w5 : (Jvm.Cond.selects y.cls z z).before args s = true) (wi : (Jvm.Cond.instanceMethod y).before args s = true) (hp : s.PrivateAt y) : (Jvm.Cond.selects y.cls y y).before args s = true := by
  obtain ⟨mk, mm, hn, hm, -, -⟩ := Cond.instanceMethod_spec wi
  obtain ⟨c2, r2, m2, -, -, q3, -, kP, hk, hi⟩ := Cond.selects_spec w5
  have a1 := findClass_of_methodNamed hn
  have a2 := findClass_of_methodNamed q3
  rw [hz] at a2
  have e : m2.cls = mk.cls := Option.some.inj (a2.symm.trans a1)
  rw [e] at hk
  have hs : selectMethod {} s.vm mk.cls mk = .method mk := selectMethod_private hm (hp mk mm hn hm)
  have hf := State.methodFound?_of_named hn hy
  simp [Cond.before, Cond.holds, Cond.value, a1, hf, hn, hs, hk, hi]
theorem own_callP (X : Stand p l e R s m args below meth c T locs cells slots) (hx : p.tables.exec = Jvm.exec) (hZ : Z.Warmed39 s.vm) {own : String} {index : Nat} {y z : MethodName} {bytes : ByteArray} {maxL : Nat} {rt : Option FieldType} {rm : Room} {as' : Array Value} {Q : Option Value → Heap → List Loc → Prop}
    (hown : s.vm.findClass own = some m.cls) (w1 : (Jvm.Cond.methodLink own index y).before a0 Z = true) (w2 : (Jvm.Cond.instanceMethod y).before a0 Z = true) (hz : z.cls = y.cls) (w5 : (Jvm.Cond.selects y.cls z z).before a0 Z = true) (w6 : (Jvm.Cond.privateMethod y).before a0 Z = true) (w3 : (Jvm.Cond.initialized y.cls).before a0 Z = true) (w4 : (Jvm.Cond.code y bytes maxL rt).before a0 Z = true) (hy : y.cls ≠ "java/lang/invoke/MethodHandle" ∧ y.cls ≠ "java/lang/invoke/VarHandle")
    {C : String} {a : Addr} (E : Exa Z h a C) (hM : own_Met l Z y bytes maxL rt [] rm as' h Q) (W : Nat) (hf : rm.frames + 1 ≤ R.frames) (hl : W + (maxL + 11) + rm.locals ≤ R.locals) (eT : T.heap = h) (hc : cells + rm.cells ≤ R.cells) (hs : slots + rm.slots ≤ R.slots)
    {g : JFrame} (hg : g.method = m) (hsize : g.locals.size = c.maxLocals) {argsL rest : List Value} (ha : (Value.ref a :: argsL).toArray = as') (hlen : ∀ sig, parseMethodDescriptor y.desc = some sig → argsL.length = sig.parameters.length) (hstack : g.stack = argsL.reverse ++ .ref a :: rest) (hW : 2 * g.monitorRoom + (rest.map fun v => v.category).sum ≤ W) (hdg : decode c.code g.pc = .ok (.invokevirtual index, 3))
    (k : ∀ v T' L, Stand p l e R s m args below meth c T' (locs ++ L) (cells + rm.cells) (slots + rm.slots) → Q v T'.heap L → own_End p e below P (T'.setTop { g with pc := g.pc + 3, stack := v.toList ++ rest })) : own_End p e below P (T.setTop g) := by
  obtain ⟨cq, q1, q2⟩ := E.cell
  have hp : s.PrivateAt y := Cond.privateMethod_at (mvP hZ w6 (args := args))
  obtain ⟨v, vm₁, ⟨T', L', k', n'⟩, -, X', ⟨L, hQ, h1, h2, h3⟩, st⟩ := X.privateBack hx (y := y) hown (mvT hZ w1) (mvT hZ w2) (own_sel hz hy (mvT hZ w5) (mvT hZ w2) hp) hp (mvT hZ w4) hy (backOf (W := W) hM hZ w4 w3 hf hl) hg hsize (Steps.refl _) (a := a) (by rw [eT]; exact q1) q2 hlen hstack hW hdg (fun _ _ => ⟨ha, eT, hc, hs⟩)
  dsimp only [Pt.U, Pt.locs, Pt.cells, Pt.slots] at X' h1 h2 h3 st hQ
  subst h1 h2 h3
  exact own_tr st (k v T' L X' hQ)
theorem own_tsw (X : Stand p l e R s m args below meth c T locs cells slots) (hx : p.tables.exec = Jvm.exec) {pc len pc' : Nat} {Ls : Array Slot} {rest : List Value} {dflt low high o : Int} {offs : Array Int} {i : Int32} (hd : decode c.code pc = .ok (.tableswitch dflt low high offs, len)) (hin : ¬ (i.toInt < low ∨ i.toInt > high)) (hoff : offs[(i.toInt - low).toNat]? = some o) (ho : 0 ≤ (pc : Int) + o) (hp : ((pc : Int) + o).toNat = pc')
    (k : own_End p e below P (T.setTop (mkF m pc' Ls rest))) : own_End p e below P (T.setTop (mkF m pc Ls (.int i :: rest))) :=
  own_st (fun _ r => XS.tswIn (g := mkF m pc Ls (.int i :: rest)) X.here hx rfl rfl hd rfl hin hoff ho hp r) k
theorem own_lt {x y : Int64} : lcmpW x y < 0 ↔ x < y := by rw [lcW]; exact lc_lt x y
theorem own_gt {x y : Int64} : 0 < lcmpW x y ↔ y < x := by rw [lcW]; exact lc_gt x y
theorem own_eq {x y : Int64} : lcmpW x y = 0 ↔ x = y := by rw [lcW]; exact lc_eq x y
theorem own_eqInt {first : State} {o : Option Outcome} {idx : List Nat} {t : Term} {k : Int32} (q : (Jvm.Cond.eq t (.int k)).value args first o s idx = some true) : t.eval args first o idx s = some (.int k) := by
  obtain ⟨x, y, e1, e2, k1, k2⟩ := cmp_v (Or.inl q)
  rw [Term.int_eval] at e2
  cases e2
  obtain ⟨z, rfl⟩ := k2
  rw [e1, gotT (Cond.eq_ints e1 (Term.int_eval k)) q]
end Own
/-- an int[] at a that holds xs -/
def own_IA (Z : State) (h : Heap) (a : Addr) (xs : List Int32) : Prop :=
  ∃ k z, Arv Z h a k .int z (xs.map Value.int) (.int 0) ∧ z.toNatClampNeg = xs.length ∧ Exa Z h a "[I"
section OwnA
variable {p : Program} {l : Launch} {e : Env} {R : Room} {s : State} {m : MethodId} {args : Array Value} {below : List Frame} {meth : Method} {c : Code} {T : State} {locs : List Loc} {cells slots : Nat} {Z : State} {a0 : Array Value} {h h' : Heap} {P : Outcome → State → Prop} {a b : Addr} {xs ys : List Int32}
theorem own_IA.lt (F : own_IA Z h a xs) : a < h.size := by obtain ⟨k, z, A, -⟩ := F; exact A.lt
theorem own_IA.ext (F : own_IA Z h a xs) (E : Ext h h') : own_IA Z h' a xs := by obtain ⟨k, z, A, q, X⟩ := F; exact ⟨k, z, A.ext E, q, X.ext E⟩
theorem own_IA.other {sl : Nat} {v : Value} (F : own_IA Z h a xs) (W : Wr h h' b sl v) (ne : a ≠ b) : own_IA Z h' a xs := by obtain ⟨k, z, A, q, X⟩ := F; exact ⟨k, z, A.other W ne, q, X.wr W⟩
theorem own_IA.keep {ws : List Addr} (F : own_IA Z h a xs) (K : Keep h h' ws) (q : a ∉ ws) : own_IA Z h' a xs := by obtain ⟨k, z, A, r, X⟩ := F; exact ⟨k, z, A.keep K q, r, X.keep K⟩
theorem own_IA.len (F : own_IA Z h a xs) : xs.length < 2 ^ 31 := by obtain ⟨k, z, ⟨cl, -, -, -, q, -⟩, r, -⟩ := F; rw [← r]; exact (back32 q).2
theorem own_IA.ins (F : own_IA Z h a xs) : Ins Z h a "[I" true := by obtain ⟨k, z, A, r, X⟩ := F; exact Ins.self X
theorem own_nat {j : Int32} {i : Nat} (hj : j.toInt = (i : Int)) : ¬ j < 0 ∧ j.toNatClampNeg = i := by
  refine ⟨fun q => by rw [Int32.lt_iff_toInt_lt] at q; rw [hj] at q; have : (0 : Int32).toInt = 0 := by decide
                      omega, ?_⟩
  show j.toInt.toNat = i
  rw [hj]; rfl
theorem own_alen (X : Stand p l e R s m args below meth c T locs cells slots) (hx : p.tables.exec = Jvm.exec) (hZ : Z.Warmed39 s.vm) (eT : T.heap = h) (F : own_IA Z h a xs) {g : JFrame} (hg : g.method = m) {rest : List Value} (hs : g.stack = .ref a :: rest) (hd : decode c.code g.pc = .ok (.arraylength, 1))
    (k : own_End p e below P (T.setTop { g with pc := g.pc + 1, stack := .int (Int32.ofNat xs.length) :: rest })) : own_End p e below P (T.setTop g) := by
  obtain ⟨k', z, ⟨cl, Ar, q1, S, N, H, G⟩, r, -⟩ := F
  refine own_st (fun _ => X.arraylength hx (by rw [eT]; exact Ar.1) (State.isArrayOf_alike hZ.alike Ar.2.1) hg hs hd _) ?_
  rw [S, r]; exact k
theorem own_iaload (X : Stand p l e R s m args below meth c T locs cells slots) (hx : p.tables.exec = Jvm.exec) (hZ : Z.Warmed39 s.vm) (eT : T.heap = h) (F : own_IA Z h a xs) {j v : Int32} {i : Nat} (hj : j.toInt = (i : Int)) (hv : xs[i]? = some v) {g : JFrame} (hg : g.method = m) {rest : List Value} (hs : g.stack = .int j :: .ref a :: rest) (hd : decode c.code g.pc = .ok (.iaload, 1))
    (k : own_End p e below P (T.setTop { g with pc := g.pc + 1, stack := .int v :: rest })) : own_End p e below P (T.setTop g) := by
  obtain ⟨k', z, ⟨cl, Ar, q1, S, N, H, G⟩, r, -⟩ := F
  obtain ⟨hn, hi⟩ := own_nat hj
  have hl : i < xs.length := (List.getElem?_eq_some_iff.mp hv).1
  have hin : ¬ (j < 0 ∨ cl.slots.size ≤ j.toNatClampNeg) := fun q => q.elim hn (fun y => by rw [S, r, hi] at y; omega)
  refine own_st (fun _ => X.iaload hx (by rw [eT]; exact Ar.1) (State.isArrayOf_alike hZ.alike Ar.2.1) Ar.2.2 hin (H.at hin (v := .int v) (by rw [hi]; simp [hv])) hg hs hd _) ?_
  exact k
theorem own_iastore (X : Stand p l e R s m args below meth c T locs cells slots) (hx : p.tables.exec = Jvm.exec) (hZ : Z.Warmed39 s.vm) (eT : T.heap = h) (F : own_IA Z h a xs) {j v : Int32} {i : Nat} (hj : j.toInt = (i : Int)) (hl : i < xs.length) {g : JFrame} (hg : g.method = m) {rest : List Value} (hs : g.stack = .int v :: .int j :: .ref a :: rest) (hd : decode c.code g.pc = .ok (.iastore, 1))
    (k : ∀ T' h', Stand p l e R s m args below meth c T' (locs ++ [⟨a, j.toNatClampNeg⟩]) cells slots → T'.heap = h' → Wr h h' a j.toNatClampNeg (.int v) → own_IA Z h' a (xs.set i v) → own_End p e below P (T'.setTop { g with pc := g.pc + 1, stack := rest })) : own_End p e below P (T.setTop g) := by
  obtain ⟨k', z, ⟨cl, Ar, q1, S, N, H, G⟩, r, E⟩ := F
  obtain ⟨hn, hi⟩ := own_nat hj
  have hin : ¬ (j < 0 ∨ cl.slots.size ≤ j.toNatClampNeg) := fun q => q.elim hn (fun y => by rw [S, r, hi] at y; omega)
  obtain ⟨T', h', X', e', W, st⟩ := stI X hx hZ eT Ar (j := j) hin hg hs hd
  refine own_st st (k T' h' X' e' W ⟨k', z, ?_, by rw [List.length_set]; exact r, E.wr W⟩)
  have := Arv.set Ar q1 S N H G rfl W i hi (by rw [List.length_map]; exact hl)
  rwa [← List.map_set] at this
theorem own_newI (X : Stand p l e R s m args below meth c T locs cells slots) (hx : p.tables.exec = Jvm.exec) (hZ : Z.Warmed39 s.vm) (w : (Jvm.Cond.arrayClass .int).before a0 Z = true) (eT : T.heap = h) {j : Int32} {n : Nat} (hj : j.toInt = (n : Int)) (cap : Nat) (hcap : n ≤ cap) (hb : cap * 8 ≤ 536870912) (hc : cells + 1 ≤ R.cells) (hl : slots + cap ≤ R.slots) {g : JFrame} (hg : g.method = m) {rest : List Value} (hs : g.stack = .int j :: rest) (hd : decode c.code g.pc = .ok (.newarray .int, 2))
    (k : ∀ T' h', Stand p l e R s m args below meth c T' locs (cells + 1) (slots + cap) → T'.heap = h' → Ext h h' → own_IA Z h' h.size (List.replicate n 0) → own_End p e below P (T'.setTop { g with pc := g.pc + 2, stack := .ref h.size :: rest })) : own_End p e below P (T.setTop g) := by
  obtain ⟨hn, hi⟩ := own_nat hj
  obtain ⟨T', h', cA, X', e', E, A, Ex, st⟩ := newPE X hx hZ (aty := .int) w eT hg hd hs hn (cap := cap) (by rw [hi]; exact hcap) hb hc hl (ad := "[I") (by decide)
  refine own_st st (k T' h' X' e' E ⟨cA, j, ?_, by rw [hi, List.length_replicate], Ex⟩)
  have := (Arv.new A hn).pad (vs' := (List.replicate n (0 : Int32)).map Value.int) (fun i => by simp [List.getD_eq_getElem?_getD, List.getElem?_replicate, newarray.typeOf, defaultValue]; split <;> rfl)
  exact this
theorem own_range (xs : List Int32) (sp n : Nat) (h4 : sp + n ≤ xs.length) : (List.range n).map (fun i => (xs.map Value.int).getD (sp + i) (.int 0)) = ((xs.drop sp).take n).map Value.int := by
  apply List.ext_getElem?
  intro i
  by_cases hi : i < n
  · have h5 : sp + i < xs.length := by omega
    simp [List.getElem?_map, List.getElem?_range hi, List.getElem?_take, hi, List.getElem?_drop, List.getD_eq_getElem?_getD, List.getElem?_eq_getElem h5]
  · rw [List.getElem?_eq_none (by simp; omega), List.getElem?_eq_none (by simp; omega)]
theorem own_copy (X : Stand p l e R s m args below meth c T locs cells slots) (hx : p.tables.exec = Jvm.exec) (hZ : Z.Warmed39 s.vm) {own : String} {index : Nat} (hown : s.vm.findClass own = some m.cls)
    (w1 : (Jvm.Cond.methodLink own index Jvm.Stand.acN).before a0 Z = true) (w2 : (Jvm.Cond.native Jvm.Stand.acN).before a0 Z = true) (w3 : (Jvm.Cond.static Jvm.Stand.acN).before a0 Z = true) (w4 : (Jvm.Cond.initialized "java/lang/System").before a0 Z = true) (eT : T.heap = h)
    (A : own_IA Z h a xs) (B : own_IA Z h b ys) {sj dj nj : Int32} {sp dp n : Nat} (h1 : sj.toInt = (sp : Int)) (h2 : dj.toInt = (dp : Int)) (h3 : nj.toInt = (n : Int)) (h4 : sp + n ≤ xs.length) (h5 : dp + n ≤ ys.length) {n0 : Nat} (N : Fr n0 locs) (ge : n0 ≤ b)
    {g : JFrame} (hg : g.method = m) (hsize : g.locals.size = c.maxLocals) {rest : List Value} (hs : g.stack = .int nj :: .int dj :: .ref b :: .int sj :: .ref a :: rest) (hd : decode c.code g.pc = .ok (.invokestatic index, 3))
    (hf : 1 ≤ R.frames) (W : Nat) (hW : 2 * g.monitorRoom + (rest.map fun v => v.category).sum ≤ W) (hlo : W + (nativeFrameWords "java/lang/System" "arraycopy" 5 + 11) ≤ R.locals)
    (k : ∀ T' h' L, Stand p l e R s m args below meth c T' L cells slots → T'.heap = h' → Fr n0 L → Keep h h' [b] → own_IA Z h' b (ys.take dp ++ (xs.drop sp).take n ++ ys.drop (dp + n)) → own_End p e below P (T'.setTop { g with pc := g.pc + 3, stack := rest })) : own_End p e below P (T.setTop g) := by
  obtain ⟨ka, za, Aa, ra, Ea⟩ := A
  obtain ⟨kb, zb, Ab, rb, Eb⟩ := B
  obtain ⟨n1, e1⟩ := own_nat h1
  obtain ⟨n2, e2⟩ := own_nat h2
  obtain ⟨n3, e3⟩ := own_nat h3
  obtain ⟨T', h', L, X', e', N', K, F, st⟩ := cpA X hx hZ hown w1 w2 w3 w4 eT Aa Ab (Or.inl ⟨rfl, rfl⟩) n1 n2 n3 (by rw [e1, e3, ra]; exact h4) (by rw [e2, e3, rb]; exact h5) (us := ((xs.drop sp).take n).map Value.int) (by rw [e3, e1]; exact (own_range xs sp n h4).symm) (by rw [e2, e3, List.length_map]; exact h5) N ge hg hsize hs hd hf hW hlo
  refine own_st st (k T' h' L X' e' N' K ⟨kb, zb, ?_, ?_, Eb.keep K⟩)
  · rw [e2, e3, ← List.map_take, ← List.map_drop, ← List.map_append, ← List.map_append] at F
    exact F
  · rw [rb]; simp; omega
theorem own_clone (X : Stand p l e R s m args below meth c T locs cells slots) (hx : p.tables.exec = Jvm.exec) (hZ : Z.Warmed39 s.vm) {own : String} {index : Nat} (hown : s.vm.findClass own = some m.cls)
    (w1 : (Jvm.Cond.methodLink own index ⟨"[I", "clone", "()Ljava/lang/Object;"⟩).before a0 Z = true) (w2 : (Jvm.Cond.sameMethod "[I" "java/lang/Object" "clone" "()Ljava/lang/Object;").before a0 Z = true) (w3 : (Jvm.Cond.native ⟨"java/lang/Object", "clone", "()Ljava/lang/Object;"⟩).before a0 Z = true)
    (w4 : (Jvm.Cond.instanceMethod ⟨"java/lang/Object", "clone", "()Ljava/lang/Object;"⟩).before a0 Z = true) (w5 : (Jvm.Cond.selects "[I" ⟨"[I", "clone", "()Ljava/lang/Object;"⟩ ⟨"java/lang/Object", "clone", "()Ljava/lang/Object;"⟩).before a0 Z = true) (w6 : (Jvm.Cond.castable "[I" "java/lang/Cloneable").before a0 Z = true)
    (eT : T.heap = h) (A : own_IA Z h a xs) {g : JFrame} (hg : g.method = m) (hsize : g.locals.size = c.maxLocals) {rest : List Value} (hst : g.stack = .ref a :: rest) (hd : decode c.code g.pc = .ok (.invokevirtual index, 3))
    (hf : 1 ≤ R.frames) (W cap : Nat) (hW : 2 * g.monitorRoom + (rest.map fun v => v.category).sum ≤ W) (hl : W + 14 ≤ R.locals) (hcap : xs.length ≤ cap) (hc : cells + 1 ≤ R.cells) (hsl : slots + cap ≤ R.slots)
    (k : ∀ T' h', Stand p l e R s m args below meth c T' locs (cells + 1) (slots + cap) → T'.heap = h' → Ext h h' → own_IA Z h' h.size xs → own_End p e below P (T'.setTop { g with pc := g.pc + 3, stack := .ref h.size :: rest })) : own_End p e below P (T.setTop g) := by
  obtain ⟨ka, za, Aa, ra, Ea⟩ := A
  obtain ⟨T', h', X', e', E, F, Ex, st⟩ := cloneH X hx hZ hown w1 w2 w3 w4 w5 w6 eT Aa.arh Ea hg hsize hst hd hf hW hl (cap := cap) (by rw [ra]; exact hcap) hc hsl
  exact own_st st (k T' h' X' e' E ⟨ka, za, F, ra, Ex⟩)
end OwnA
/-- a long[] at a that holds xs -/
def own_LA (Z : State) (h : Heap) (a : Addr) (xs : List Int64) : Prop :=
  ∃ k z, Arv Z h a k .long z (xs.map Value.long) (.long 0) ∧ z.toNatClampNeg = xs.length ∧ Exa Z h a "[J"
section OwnL
variable {p : Program} {l : Launch} {e : Env} {R : Room} {s : State} {m : MethodId} {args : Array Value} {below : List Frame} {meth : Method} {c : Code} {T : State} {locs : List Loc} {cells slots : Nat} {Z : State} {a0 : Array Value} {h h' : Heap} {P : Outcome → State → Prop} {a b : Addr} {xs ys : List Int64}
theorem own_LA.lt (F : own_LA Z h a xs) : a < h.size := by obtain ⟨k, z, A, -⟩ := F; exact A.lt
theorem own_LA.ext (F : own_LA Z h a xs) (E : Ext h h') : own_LA Z h' a xs := by obtain ⟨k, z, A, q, X⟩ := F; exact ⟨k, z, A.ext E, q, X.ext E⟩
theorem own_LA.other {sl : Nat} {v : Value} (F : own_LA Z h a xs) (W : Wr h h' b sl v) (ne : a ≠ b) : own_LA Z h' a xs := by obtain ⟨k, z, A, q, X⟩ := F; exact ⟨k, z, A.other W ne, q, X.wr W⟩
theorem own_LA.keep {ws : List Addr} (F : own_LA Z h a xs) (K : Keep h h' ws) (q : a ∉ ws) : own_LA Z h' a xs := by obtain ⟨k, z, A, r, X⟩ := F; exact ⟨k, z, A.keep K q, r, X.keep K⟩
theorem own_LA.len (F : own_LA Z h a xs) : xs.length < 2 ^ 31 := by obtain ⟨k, z, ⟨cl, -, -, -, q, -⟩, r, -⟩ := F; rw [← r]; exact (back32 q).2
theorem own_LA.ins (F : own_LA Z h a xs) : Ins Z h a "[J" true := by obtain ⟨k, z, A, r, X⟩ := F; exact Ins.self X
theorem own_alenJ (X : Stand p l e R s m args below meth c T locs cells slots) (hx : p.tables.exec = Jvm.exec) (hZ : Z.Warmed39 s.vm) (eT : T.heap = h) (F : own_LA Z h a xs) {g : JFrame} (hg : g.method = m) {rest : List Value} (hs : g.stack = .ref a :: rest) (hd : decode c.code g.pc = .ok (.arraylength, 1))
    (k : own_End p e below P (T.setTop { g with pc := g.pc + 1, stack := .int (Int32.ofNat xs.length) :: rest })) : own_End p e below P (T.setTop g) := by
  obtain ⟨k', z, ⟨cl, Ar, q1, S, N, H, G⟩, r, -⟩ := F
  refine own_st (fun _ => X.arraylength hx (by rw [eT]; exact Ar.1) (State.isArrayOf_alike hZ.alike Ar.2.1) hg hs hd _) ?_
  rw [S, r]; exact k
theorem own_laload (X : Stand p l e R s m args below meth c T locs cells slots) (hx : p.tables.exec = Jvm.exec) (hZ : Z.Warmed39 s.vm) (eT : T.heap = h) (F : own_LA Z h a xs) {j : Int32} {v : Int64} {i : Nat} (hj : j.toInt = (i : Int)) (hv : xs[i]? = some v) {g : JFrame} (hg : g.method = m) {rest : List Value} (hs : g.stack = .int j :: .ref a :: rest) (hd : decode c.code g.pc = .ok (.laload, 1))
    (k : own_End p e below P (T.setTop { g with pc := g.pc + 1, stack := .long v :: rest })) : own_End p e below P (T.setTop g) := by
  obtain ⟨k', z, ⟨cl, Ar, q1, S, N, H, G⟩, r, -⟩ := F
  obtain ⟨hn, hi⟩ := own_nat hj
  have hl : i < xs.length := (List.getElem?_eq_some_iff.mp hv).1
  have hin : ¬ (j < 0 ∨ cl.slots.size ≤ j.toNatClampNeg) := fun q => q.elim hn (fun y => by rw [S, r, hi] at y; omega)
  refine own_st (fun _ => X.laload hx (by rw [eT]; exact Ar.1) (State.isArrayOf_alike hZ.alike Ar.2.1) Ar.2.2 hin (H.at hin (v := .long v) (by rw [hi]; simp [hv])) hg hs hd _) ?_
  exact k
theorem own_lastore (X : Stand p l e R s m args below meth c T locs cells slots) (hx : p.tables.exec = Jvm.exec) (hZ : Z.Warmed39 s.vm) (eT : T.heap = h) (F : own_LA Z h a xs) {j : Int32} {v : Int64} {i : Nat} (hj : j.toInt = (i : Int)) (hl : i < xs.length) {g : JFrame} (hg : g.method = m) {rest : List Value} (hs : g.stack = .long v :: .int j :: .ref a :: rest) (hd : decode c.code g.pc = .ok (.lastore, 1))
    (k : ∀ T' h', Stand p l e R s m args below meth c T' (locs ++ [⟨a, j.toNatClampNeg⟩]) cells slots → T'.heap = h' → Wr h h' a j.toNatClampNeg (.long v) → own_LA Z h' a (xs.set i v) → own_End p e below P (T'.setTop { g with pc := g.pc + 1, stack := rest })) : own_End p e below P (T.setTop g) := by
  obtain ⟨k', z, ⟨cl, Ar, q1, S, N, H, G⟩, r, E⟩ := F
  obtain ⟨hn, hi⟩ := own_nat hj
  have hin : ¬ (j < 0 ∨ cl.slots.size ≤ j.toNatClampNeg) := fun q => q.elim hn (fun y => by rw [S, r, hi] at y; omega)
  obtain ⟨T', h', X', e', W, st⟩ := stJ X hx hZ eT Ar (j := j) hin hg hs hd
  refine own_st st (k T' h' X' e' W ⟨k', z, ?_, by rw [List.length_set]; exact r, E.wr W⟩)
  have := Arv.set Ar q1 S N H G rfl W i hi (by rw [List.length_map]; exact hl)
  rwa [← List.map_set] at this
theorem own_newJ (X : Stand p l e R s m args below meth c T locs cells slots) (hx : p.tables.exec = Jvm.exec) (hZ : Z.Warmed39 s.vm) (w : (Jvm.Cond.arrayClass .long).before a0 Z = true) (eT : T.heap = h) {j : Int32} {n : Nat} (hj : j.toInt = (n : Int)) (cap : Nat) (hcap : n ≤ cap) (hb : cap * 8 ≤ 536870912) (hc : cells + 1 ≤ R.cells) (hl : slots + cap ≤ R.slots) {g : JFrame} (hg : g.method = m) {rest : List Value} (hs : g.stack = .int j :: rest) (hd : decode c.code g.pc = .ok (.newarray .long, 2))
    (k : ∀ T' h', Stand p l e R s m args below meth c T' locs (cells + 1) (slots + cap) → T'.heap = h' → Ext h h' → own_LA Z h' h.size (List.replicate n 0) → own_End p e below P (T'.setTop { g with pc := g.pc + 2, stack := .ref h.size :: rest })) : own_End p e below P (T.setTop g) := by
  obtain ⟨hn, hi⟩ := own_nat hj
  obtain ⟨T', h', cA, X', e', E, A, Ex, st⟩ := newPE X hx hZ (aty := .long) w eT hg hd hs hn (cap := cap) (by rw [hi]; exact hcap) hb hc hl (ad := "[J") (by decide)
  refine own_st st (k T' h' X' e' E ⟨cA, j, ?_, by rw [hi, List.length_replicate], Ex⟩)
  have := (Arv.new A hn).pad (vs' := (List.replicate n (0 : Int64)).map Value.long) (fun i => by simp [List.getD_eq_getElem?_getD, List.getElem?_replicate, newarray.typeOf, defaultValue]; split <;> rfl)
  exact this
end OwnL
theorem own_ofn {k : Nat} (h : k < 2 ^ 31) : (Int32.ofNat k).toInt = (k : Int) := Int32.toInt_ofNat_small h
theorem own_dbl {p : Int32} (h : 0 ≤ p.toInt ∧ p.toInt ≤ 32768) : ((2 : Int32).toInt64 * p.toInt64).toInt = 2 * p.toInt := by
  have e2 : (2 : Int32).toInt64.toInt = 2 := by decide
  have ep := Jvm.Kit.i64_of_i32 p
  rw [Jvm.Kit.i64_mul (by rw [e2, ep]; omega) (by rw [e2, ep]; omega), e2, ep]
theorem own_dbl32 {p : Int32} (h : 0 ≤ p.toInt ∧ p.toInt ≤ 32768) : (((2 : Int32).toInt64 * p.toInt64).toInt32).toInt = 2 * p.toInt := by
  have e := own_dbl h
  rw [Jvm.Kit.i32_of_i64 (by rw [e]; omega) (by rw [e]; omega), e]
theorem own_mx {p : Int32} (h : 0 ≤ p.toInt ∧ p.toInt ≤ 32768) : ((((2 : Int32).toInt64 * p.toInt64).toInt32).toInt64) = ((2 : Int32).toInt64 * p.toInt64) := by
  apply Int64.toInt_inj.mp
  rw [Jvm.Kit.i64_of_i32, own_dbl32 h, own_dbl h]
theorem own_cmp (p m : Int32) (hp : -65536 ≤ p.toInt ∧ p.toInt ≤ 65536) (hm : -65536 ≤ m.toInt ∧ m.toInt ≤ 65536) : ((3 : Int64) * (p.toInt64)) < ((4 : Int64) * (m.toInt64)) ↔ 3 * p.toInt < 4 * m.toInt := by
  have e3 : (3 : Int64).toInt = 3 := by decide
  have e4 : (4 : Int64).toInt = 4 := by decide
  have ep := Jvm.Kit.i64_of_i32 p
  have em := Jvm.Kit.i64_of_i32 m
  rw [Int64.lt_iff_toInt_lt, Jvm.Kit.i64_mul (by rw [e3, ep]; omega) (by rw [e3, ep]; omega), Jvm.Kit.i64_mul (by rw [e4, em]; omega) (by rw [e4, em]; omega), e3, e4, ep, em]
theorem own_idx (x : Int32) {cp : Nat} (h1 : 1 ≤ cp) (h2 : cp ≤ 32768) : ((x &&& (Int32.ofNat (List.replicate cp (0 : Int64)).length - (1 : Int32))).toInt = ((x &&& (Int32.ofNat (List.replicate cp (0 : Int64)).length - (1 : Int32))).toNatClampNeg : Int)) ∧ (x &&& (Int32.ofNat (List.replicate cp (0 : Int64)).length - (1 : Int32))).toNatClampNeg < cp := by
  rw [List.length_replicate]
  have o : (1 : Int32).toInt = 1 := by decide
  have e := own_ofn (k := cp) (by omega)
  have em : (Int32.ofNat cp - (1 : Int32)).toInt = (cp : Int) - 1 := by rw [Jvm.Kit.i32_sub (by rw [e, o]; omega) (by rw [e, o]; omega), e, o]
  have hm : (0 : Int32) ≤ Int32.ofNat cp - (1 : Int32) := by rw [Jvm.Kit.i32_nonneg, em]; omega
  obtain ⟨b1, b2⟩ := Jvm.Kit.i32_and_bounds x hm
  rw [Jvm.Kit.i32_nonneg] at b1
  rw [Int32.le_iff_toInt_le, em] at b2
  generalize (x &&& (Int32.ofNat cp - (1 : Int32))) = w at *
  have hw : w.toNatClampNeg = w.toInt.toNat := rfl
  omega
theorem own_rep {cp i : Nat} (h : i < cp) : (List.replicate cp (0 : Int64))[i]? = some (0 : Int64) := by simp [h]
theorem own_ng {cp : Nat} (h1 : 16 ≤ cp) (h2 : cp ≤ 32768) : ¬ (((3 : Int64) * ((Int32.ofNat (List.replicate cp (0 : Int64)).length).toInt64)) < ((4 : Int64) * ((1 : Int32).toInt64))) := by
  rw [List.length_replicate, own_cmp _ _ (by rw [own_ofn (by omega)]; omega) (by decide), own_ofn (by omega)]
  have o : (1 : Int32).toInt = 1 := by decide
  omega
theorem own_dfin_0 : decode prog_26_method_7_code 0 = .ok (.lload_n 0, 1) := by decide +kernel
theorem own_dfin_1 : decode prog_26_method_7_code 1 = .ok (.lstore_n 2, 1) := by decide +kernel
theorem own_dfin_2 : decode prog_26_method_7_code 2 = .ok (.lload_n 2, 1) := by decide +kernel
theorem own_dfin_3 : decode prog_26_method_7_code 3 = .ok (.lload_n 2, 1) := by decide +kernel
theorem own_dfin_4 : decode prog_26_method_7_code 4 = .ok (.bipush 33, 2) := by decide +kernel
theorem own_dfin_6 : decode prog_26_method_7_code 6 = .ok (.lushr, 1) := by decide +kernel
theorem own_dfin_7 : decode prog_26_method_7_code 7 = .ok (.lxor, 1) := by decide +kernel
theorem own_dfin_8 : decode prog_26_method_7_code 8 = .ok (.lstore_n 2, 1) := by decide +kernel
theorem own_dfin_9 : decode prog_26_method_7_code 9 = .ok (.lload_n 2, 1) := by decide +kernel
theorem own_dfin_10 : decode prog_26_method_7_code 10 = .ok (.ldc2_w 75, 3) := by decide +kernel
theorem own_dfin_13 : decode prog_26_method_7_code 13 = .ok (.lmul, 1) := by decide +kernel
theorem own_dfin_14 : decode prog_26_method_7_code 14 = .ok (.lstore_n 2, 1) := by decide +kernel
theorem own_dfin_15 : decode prog_26_method_7_code 15 = .ok (.lload_n 2, 1) := by decide +kernel
theorem own_dfin_16 : decode prog_26_method_7_code 16 = .ok (.lload_n 2, 1) := by decide +kernel
theorem own_dfin_17 : decode prog_26_method_7_code 17 = .ok (.bipush 33, 2) := by decide +kernel
theorem own_dfin_19 : decode prog_26_method_7_code 19 = .ok (.lushr, 1) := by decide +kernel
theorem own_dfin_20 : decode prog_26_method_7_code 20 = .ok (.lxor, 1) := by decide +kernel
theorem own_dfin_21 : decode prog_26_method_7_code 21 = .ok (.lstore_n 2, 1) := by decide +kernel
theorem own_dfin_22 : decode prog_26_method_7_code 22 = .ok (.lload_n 2, 1) := by decide +kernel
theorem own_dfin_23 : decode prog_26_method_7_code 23 = .ok (.ldc2_w 77, 3) := by decide +kernel
theorem own_dfin_26 : decode prog_26_method_7_code 26 = .ok (.lmul, 1) := by decide +kernel
theorem own_dfin_27 : decode prog_26_method_7_code 27 = .ok (.lstore_n 2, 1) := by decide +kernel
theorem own_dfin_28 : decode prog_26_method_7_code 28 = .ok (.lload_n 2, 1) := by decide +kernel
theorem own_dfin_29 : decode prog_26_method_7_code 29 = .ok (.lload_n 2, 1) := by decide +kernel
theorem own_dfin_30 : decode prog_26_method_7_code 30 = .ok (.bipush 33, 2) := by decide +kernel
theorem own_dfin_32 : decode prog_26_method_7_code 32 = .ok (.lushr, 1) := by decide +kernel
theorem own_dfin_33 : decode prog_26_method_7_code 33 = .ok (.lxor, 1) := by decide +kernel
theorem own_dfin_34 : decode prog_26_method_7_code 34 = .ok (.lstore_n 2, 1) := by decide +kernel
theorem own_dfin_35 : decode prog_26_method_7_code 35 = .ok (.lload_n 2, 1) := by decide +kernel
theorem own_dfin_36 : decode prog_26_method_7_code 36 = .ok (.lreturn, 1) := by decide +kernel
theorem own_effin (m : MethodId) (q0 : Int64) : entryFrame m #[(.long q0)] 4 = mkF m 0 #[.val (.long q0), .second, .unset, .unset] [] := by first | (simp [entryFrame, mkF, argsToLocals, Value.category]; done) | rfl
def own_ffin (q0 : Int64) : Int64 := (((((q0 ^^^ ((q0.toUInt64 >>> ((33 : Int32) &&& 0x3f).toInt64.toUInt64).toInt64)) * (-49064778989728563 : Int64)) ^^^ ((((q0 ^^^ ((q0.toUInt64 >>> ((33 : Int32) &&& 0x3f).toInt64.toUInt64).toInt64)) * (-49064778989728563 : Int64)).toUInt64 >>> ((33 : Int32) &&& 0x3f).toInt64.toUInt64).toInt64)) * (-4265267296055464877 : Int64)) ^^^ ((((((q0 ^^^ ((q0.toUInt64 >>> ((33 : Int32) &&& 0x3f).toInt64.toUInt64).toInt64)) * (-49064778989728563 : Int64)) ^^^ ((((q0 ^^^ ((q0.toUInt64 >>> ((33 : Int32) &&& 0x3f).toInt64.toUInt64).toInt64)) * (-49064778989728563 : Int64)).toUInt64 >>> ((33 : Int32) &&& 0x3f).toInt64.toUInt64).toInt64)) * (-4265267296055464877 : Int64)).toUInt64 >>> ((33 : Int32) &&& 0x3f).toInt64.toUInt64).toInt64))
theorem own_pn_com_example_defnot_defnot_MurmurHash3 : plainName "com/example/defnot/defnot/MurmurHash3" = true := by first | (simp [plainName, overriddenIn]; done) | decide +kernel
set_option maxRecDepth 65536 in
set_option maxHeartbeats 40000000 in
theorem own_mfin (l : Launch) (Z : State) (a0 : Array Value) (hw : ∀ d ∈ tables_1, d.before a0 Z = true) (ws : List Jvm.Cond) (q0 : Int64)  (h0 : Heap) (n0 : Nat) (Z0 : n0 ≤ h0.size)  :
    own_Met l Z (⟨"com/example/defnot/defnot/MurmurHash3", "finish", "(J)J"⟩ : MethodName) prog_26_method_7_code 4 (some .long) ws ({ frames := 0, cells := 0, slots := 0, locals := 0 } : Room) #[(.long q0)] h0 (fun (v : Option Value) (h : Heap) (L : List Loc) => v = some (.long (own_ffin q0)) ∧ Fr n0 L ∧ h = h0) := by
  refine own_enter (plainFor_of_name own_pn_com_example_defnot_defnot_MurmurHash3) ?_
  intro p e s m below meth c s₁ P hx hby hml hrt hlk hown hnm hZ X0 e0 hP
  have N0 := Fr.nil n0
  have K0 := Keep.refl h0 []
  have hml' : c.maxLocals = 4 := hml
  refine own_cast (own_effin m q0) ?_
  show own_End p e below P (s₁.setTop (mkF m 0 #[.val (.long q0), .second, .unset, .unset] []))
  refine own_st (fun _ => XS.lloadN X0.here hx rfl (hb hby own_dfin_0) rfl) ?_
  show own_End p e below P (s₁.setTop (mkF m 1 #[.val (.long q0), .second, .unset, .unset] [(.long q0)]))
  refine own_st (fun _ => XS.lstoreN X0.here hx rfl (hb hby own_dfin_1) rfl (l' := #[.val (.long q0), .second, .val (.long q0), .second]) rfl) ?_
  show own_End p e below P (s₁.setTop (mkF m 2 #[.val (.long q0), .second, .val (.long q0), .second] []))
  refine own_st (fun _ => XS.lloadN X0.here hx rfl (hb hby own_dfin_2) rfl) ?_
  show own_End p e below P (s₁.setTop (mkF m 3 #[.val (.long q0), .second, .val (.long q0), .second] [(.long q0)]))
  refine own_st (fun _ => XS.lloadN X0.here hx rfl (hb hby own_dfin_3) rfl) ?_
  show own_End p e below P (s₁.setTop (mkF m 4 #[.val (.long q0), .second, .val (.long q0), .second] [(.long q0), (.long q0)]))
  refine own_st (fun _ => XS.bipush X0.here hx rfl (hb hby own_dfin_4)) ?_
  show own_End p e below P (s₁.setTop (mkF m 6 #[.val (.long q0), .second, .val (.long q0), .second] [(.int (33 : Int32)), (.long q0), (.long q0)]))
  refine own_st (fun _ => XS.lushr X0.here hx rfl (hb hby own_dfin_6) rfl) ?_
  show own_End p e below P (s₁.setTop (mkF m 7 #[.val (.long q0), .second, .val (.long q0), .second] [(.long ((q0.toUInt64 >>> ((33 : Int32) &&& 0x3f).toInt64.toUInt64).toInt64)), (.long q0)]))
  refine own_st (fun _ => XS.lxor X0.here hx rfl (hb hby own_dfin_7) rfl) ?_
  show own_End p e below P (s₁.setTop (mkF m 8 #[.val (.long q0), .second, .val (.long q0), .second] [(.long (q0 ^^^ ((q0.toUInt64 >>> ((33 : Int32) &&& 0x3f).toInt64.toUInt64).toInt64)))]))
  refine own_st (fun _ => XS.lstoreN X0.here hx rfl (hb hby own_dfin_8) rfl (l' := #[.val (.long q0), .second, .val (.long (q0 ^^^ ((q0.toUInt64 >>> ((33 : Int32) &&& 0x3f).toInt64.toUInt64).toInt64))), .second]) rfl) ?_
  show own_End p e below P (s₁.setTop (mkF m 9 #[.val (.long q0), .second, .val (.long (q0 ^^^ ((q0.toUInt64 >>> ((33 : Int32) &&& 0x3f).toInt64.toUInt64).toInt64))), .second] []))
  refine own_st (fun _ => XS.lloadN X0.here hx rfl (hb hby own_dfin_9) rfl) ?_
  show own_End p e below P (s₁.setTop (mkF m 10 #[.val (.long q0), .second, .val (.long (q0 ^^^ ((q0.toUInt64 >>> ((33 : Int32) &&& 0x3f).toInt64.toUInt64).toInt64))), .second] [(.long (q0 ^^^ ((q0.toUInt64 >>> ((33 : Int32) &&& 0x3f).toInt64.toUInt64).toInt64)))]))
  refine own_st (fun _ => X0.ldc2Long hx hown (mvT hZ (hw _ (List.mem_of_getElem? (i := 45) rfl))) (g := (mkF m 10 #[.val (.long q0), .second, .val (.long (q0 ^^^ ((q0.toUInt64 >>> ((33 : Int32) &&& 0x3f).toInt64.toUInt64).toInt64))), .second] [(.long (q0 ^^^ ((q0.toUInt64 >>> ((33 : Int32) &&& 0x3f).toInt64.toUInt64).toInt64)))])) rfl (hb hby own_dfin_10) _) ?_
  show own_End p e below P (s₁.setTop (mkF m 13 #[.val (.long q0), .second, .val (.long (q0 ^^^ ((q0.toUInt64 >>> ((33 : Int32) &&& 0x3f).toInt64.toUInt64).toInt64))), .second] [(.long (-49064778989728563 : Int64)), (.long (q0 ^^^ ((q0.toUInt64 >>> ((33 : Int32) &&& 0x3f).toInt64.toUInt64).toInt64)))]))
  refine own_st (fun _ => XS.lmul X0.here hx rfl (hb hby own_dfin_13) rfl) ?_
  show own_End p e below P (s₁.setTop (mkF m 14 #[.val (.long q0), .second, .val (.long (q0 ^^^ ((q0.toUInt64 >>> ((33 : Int32) &&& 0x3f).toInt64.toUInt64).toInt64))), .second] [(.long ((q0 ^^^ ((q0.toUInt64 >>> ((33 : Int32) &&& 0x3f).toInt64.toUInt64).toInt64)) * (-49064778989728563 : Int64)))]))
  refine own_st (fun _ => XS.lstoreN X0.here hx rfl (hb hby own_dfin_14) rfl (l' := #[.val (.long q0), .second, .val (.long ((q0 ^^^ ((q0.toUInt64 >>> ((33 : Int32) &&& 0x3f).toInt64.toUInt64).toInt64)) * (-49064778989728563 : Int64))), .second]) rfl) ?_
  show own_End p e below P (s₁.setTop (mkF m 15 #[.val (.long q0), .second, .val (.long ((q0 ^^^ ((q0.toUInt64 >>> ((33 : Int32) &&& 0x3f).toInt64.toUInt64).toInt64)) * (-49064778989728563 : Int64))), .second] []))
  refine own_st (fun _ => XS.lloadN X0.here hx rfl (hb hby own_dfin_15) rfl) ?_
  show own_End p e below P (s₁.setTop (mkF m 16 #[.val (.long q0), .second, .val (.long ((q0 ^^^ ((q0.toUInt64 >>> ((33 : Int32) &&& 0x3f).toInt64.toUInt64).toInt64)) * (-49064778989728563 : Int64))), .second] [(.long ((q0 ^^^ ((q0.toUInt64 >>> ((33 : Int32) &&& 0x3f).toInt64.toUInt64).toInt64)) * (-49064778989728563 : Int64)))]))
  refine own_st (fun _ => XS.lloadN X0.here hx rfl (hb hby own_dfin_16) rfl) ?_
  show own_End p e below P (s₁.setTop (mkF m 17 #[.val (.long q0), .second, .val (.long ((q0 ^^^ ((q0.toUInt64 >>> ((33 : Int32) &&& 0x3f).toInt64.toUInt64).toInt64)) * (-49064778989728563 : Int64))), .second] [(.long ((q0 ^^^ ((q0.toUInt64 >>> ((33 : Int32) &&& 0x3f).toInt64.toUInt64).toInt64)) * (-49064778989728563 : Int64))), (.long ((q0 ^^^ ((q0.toUInt64 >>> ((33 : Int32) &&& 0x3f).toInt64.toUInt64).toInt64)) * (-49064778989728563 : Int64)))]))
  refine own_st (fun _ => XS.bipush X0.here hx rfl (hb hby own_dfin_17)) ?_
  show own_End p e below P (s₁.setTop (mkF m 19 #[.val (.long q0), .second, .val (.long ((q0 ^^^ ((q0.toUInt64 >>> ((33 : Int32) &&& 0x3f).toInt64.toUInt64).toInt64)) * (-49064778989728563 : Int64))), .second] [(.int (33 : Int32)), (.long ((q0 ^^^ ((q0.toUInt64 >>> ((33 : Int32) &&& 0x3f).toInt64.toUInt64).toInt64)) * (-49064778989728563 : Int64))), (.long ((q0 ^^^ ((q0.toUInt64 >>> ((33 : Int32) &&& 0x3f).toInt64.toUInt64).toInt64)) * (-49064778989728563 : Int64)))]))
  refine own_st (fun _ => XS.lushr X0.here hx rfl (hb hby own_dfin_19) rfl) ?_
  show own_End p e below P (s₁.setTop (mkF m 20 #[.val (.long q0), .second, .val (.long ((q0 ^^^ ((q0.toUInt64 >>> ((33 : Int32) &&& 0x3f).toInt64.toUInt64).toInt64)) * (-49064778989728563 : Int64))), .second] [(.long ((((q0 ^^^ ((q0.toUInt64 >>> ((33 : Int32) &&& 0x3f).toInt64.toUInt64).toInt64)) * (-49064778989728563 : Int64)).toUInt64 >>> ((33 : Int32) &&& 0x3f).toInt64.toUInt64).toInt64)), (.long ((q0 ^^^ ((q0.toUInt64 >>> ((33 : Int32) &&& 0x3f).toInt64.toUInt64).toInt64)) * (-49064778989728563 : Int64)))]))
  refine own_st (fun _ => XS.lxor X0.here hx rfl (hb hby own_dfin_20) rfl) ?_
  show own_End p e below P (s₁.setTop (mkF m 21 #[.val (.long q0), .second, .val (.long ((q0 ^^^ ((q0.toUInt64 >>> ((33 : Int32) &&& 0x3f).toInt64.toUInt64).toInt64)) * (-49064778989728563 : Int64))), .second] [(.long (((q0 ^^^ ((q0.toUInt64 >>> ((33 : Int32) &&& 0x3f).toInt64.toUInt64).toInt64)) * (-49064778989728563 : Int64)) ^^^ ((((q0 ^^^ ((q0.toUInt64 >>> ((33 : Int32) &&& 0x3f).toInt64.toUInt64).toInt64)) * (-49064778989728563 : Int64)).toUInt64 >>> ((33 : Int32) &&& 0x3f).toInt64.toUInt64).toInt64)))]))
  refine own_st (fun _ => XS.lstoreN X0.here hx rfl (hb hby own_dfin_21) rfl (l' := #[.val (.long q0), .second, .val (.long (((q0 ^^^ ((q0.toUInt64 >>> ((33 : Int32) &&& 0x3f).toInt64.toUInt64).toInt64)) * (-49064778989728563 : Int64)) ^^^ ((((q0 ^^^ ((q0.toUInt64 >>> ((33 : Int32) &&& 0x3f).toInt64.toUInt64).toInt64)) * (-49064778989728563 : Int64)).toUInt64 >>> ((33 : Int32) &&& 0x3f).toInt64.toUInt64).toInt64))), .second]) rfl) ?_
  show own_End p e below P (s₁.setTop (mkF m 22 #[.val (.long q0), .second, .val (.long (((q0 ^^^ ((q0.toUInt64 >>> ((33 : Int32) &&& 0x3f).toInt64.toUInt64).toInt64)) * (-49064778989728563 : Int64)) ^^^ ((((q0 ^^^ ((q0.toUInt64 >>> ((33 : Int32) &&& 0x3f).toInt64.toUInt64).toInt64)) * (-49064778989728563 : Int64)).toUInt64 >>> ((33 : Int32) &&& 0x3f).toInt64.toUInt64).toInt64))), .second] []))
  refine own_st (fun _ => XS.lloadN X0.here hx rfl (hb hby own_dfin_22) rfl) ?_
  show own_End p e below P (s₁.setTop (mkF m 23 #[.val (.long q0), .second, .val (.long (((q0 ^^^ ((q0.toUInt64 >>> ((33 : Int32) &&& 0x3f).toInt64.toUInt64).toInt64)) * (-49064778989728563 : Int64)) ^^^ ((((q0 ^^^ ((q0.toUInt64 >>> ((33 : Int32) &&& 0x3f).toInt64.toUInt64).toInt64)) * (-49064778989728563 : Int64)).toUInt64 >>> ((33 : Int32) &&& 0x3f).toInt64.toUInt64).toInt64))), .second] [(.long (((q0 ^^^ ((q0.toUInt64 >>> ((33 : Int32) &&& 0x3f).toInt64.toUInt64).toInt64)) * (-49064778989728563 : Int64)) ^^^ ((((q0 ^^^ ((q0.toUInt64 >>> ((33 : Int32) &&& 0x3f).toInt64.toUInt64).toInt64)) * (-49064778989728563 : Int64)).toUInt64 >>> ((33 : Int32) &&& 0x3f).toInt64.toUInt64).toInt64)))]))
  refine own_st (fun _ => X0.ldc2Long hx hown (mvT hZ (hw _ (List.mem_of_getElem? (i := 46) rfl))) (g := (mkF m 23 #[.val (.long q0), .second, .val (.long (((q0 ^^^ ((q0.toUInt64 >>> ((33 : Int32) &&& 0x3f).toInt64.toUInt64).toInt64)) * (-49064778989728563 : Int64)) ^^^ ((((q0 ^^^ ((q0.toUInt64 >>> ((33 : Int32) &&& 0x3f).toInt64.toUInt64).toInt64)) * (-49064778989728563 : Int64)).toUInt64 >>> ((33 : Int32) &&& 0x3f).toInt64.toUInt64).toInt64))), .second] [(.long (((q0 ^^^ ((q0.toUInt64 >>> ((33 : Int32) &&& 0x3f).toInt64.toUInt64).toInt64)) * (-49064778989728563 : Int64)) ^^^ ((((q0 ^^^ ((q0.toUInt64 >>> ((33 : Int32) &&& 0x3f).toInt64.toUInt64).toInt64)) * (-49064778989728563 : Int64)).toUInt64 >>> ((33 : Int32) &&& 0x3f).toInt64.toUInt64).toInt64)))])) rfl (hb hby own_dfin_23) _) ?_
  show own_End p e below P (s₁.setTop (mkF m 26 #[.val (.long q0), .second, .val (.long (((q0 ^^^ ((q0.toUInt64 >>> ((33 : Int32) &&& 0x3f).toInt64.toUInt64).toInt64)) * (-49064778989728563 : Int64)) ^^^ ((((q0 ^^^ ((q0.toUInt64 >>> ((33 : Int32) &&& 0x3f).toInt64.toUInt64).toInt64)) * (-49064778989728563 : Int64)).toUInt64 >>> ((33 : Int32) &&& 0x3f).toInt64.toUInt64).toInt64))), .second] [(.long (-4265267296055464877 : Int64)), (.long (((q0 ^^^ ((q0.toUInt64 >>> ((33 : Int32) &&& 0x3f).toInt64.toUInt64).toInt64)) * (-49064778989728563 : Int64)) ^^^ ((((q0 ^^^ ((q0.toUInt64 >>> ((33 : Int32) &&& 0x3f).toInt64.toUInt64).toInt64)) * (-49064778989728563 : Int64)).toUInt64 >>> ((33 : Int32) &&& 0x3f).toInt64.toUInt64).toInt64)))]))
  refine own_st (fun _ => XS.lmul X0.here hx rfl (hb hby own_dfin_26) rfl) ?_
  show own_End p e below P (s₁.setTop (mkF m 27 #[.val (.long q0), .second, .val (.long (((q0 ^^^ ((q0.toUInt64 >>> ((33 : Int32) &&& 0x3f).toInt64.toUInt64).toInt64)) * (-49064778989728563 : Int64)) ^^^ ((((q0 ^^^ ((q0.toUInt64 >>> ((33 : Int32) &&& 0x3f).toInt64.toUInt64).toInt64)) * (-49064778989728563 : Int64)).toUInt64 >>> ((33 : Int32) &&& 0x3f).toInt64.toUInt64).toInt64))), .second] [(.long ((((q0 ^^^ ((q0.toUInt64 >>> ((33 : Int32) &&& 0x3f).toInt64.toUInt64).toInt64)) * (-49064778989728563 : Int64)) ^^^ ((((q0 ^^^ ((q0.toUInt64 >>> ((33 : Int32) &&& 0x3f).toInt64.toUInt64).toInt64)) * (-49064778989728563 : Int64)).toUInt64 >>> ((33 : Int32) &&& 0x3f).toInt64.toUInt64).toInt64)) * (-4265267296055464877 : Int64)))]))
  refine own_st (fun _ => XS.lstoreN X0.here hx rfl (hb hby own_dfin_27) rfl (l' := #[.val (.long q0), .second, .val (.long ((((q0 ^^^ ((q0.toUInt64 >>> ((33 : Int32) &&& 0x3f).toInt64.toUInt64).toInt64)) * (-49064778989728563 : Int64)) ^^^ ((((q0 ^^^ ((q0.toUInt64 >>> ((33 : Int32) &&& 0x3f).toInt64.toUInt64).toInt64)) * (-49064778989728563 : Int64)).toUInt64 >>> ((33 : Int32) &&& 0x3f).toInt64.toUInt64).toInt64)) * (-4265267296055464877 : Int64))), .second]) rfl) ?_
  show own_End p e below P (s₁.setTop (mkF m 28 #[.val (.long q0), .second, .val (.long ((((q0 ^^^ ((q0.toUInt64 >>> ((33 : Int32) &&& 0x3f).toInt64.toUInt64).toInt64)) * (-49064778989728563 : Int64)) ^^^ ((((q0 ^^^ ((q0.toUInt64 >>> ((33 : Int32) &&& 0x3f).toInt64.toUInt64).toInt64)) * (-49064778989728563 : Int64)).toUInt64 >>> ((33 : Int32) &&& 0x3f).toInt64.toUInt64).toInt64)) * (-4265267296055464877 : Int64))), .second] []))
  refine own_st (fun _ => XS.lloadN X0.here hx rfl (hb hby own_dfin_28) rfl) ?_
  show own_End p e below P (s₁.setTop (mkF m 29 #[.val (.long q0), .second, .val (.long ((((q0 ^^^ ((q0.toUInt64 >>> ((33 : Int32) &&& 0x3f).toInt64.toUInt64).toInt64)) * (-49064778989728563 : Int64)) ^^^ ((((q0 ^^^ ((q0.toUInt64 >>> ((33 : Int32) &&& 0x3f).toInt64.toUInt64).toInt64)) * (-49064778989728563 : Int64)).toUInt64 >>> ((33 : Int32) &&& 0x3f).toInt64.toUInt64).toInt64)) * (-4265267296055464877 : Int64))), .second] [(.long ((((q0 ^^^ ((q0.toUInt64 >>> ((33 : Int32) &&& 0x3f).toInt64.toUInt64).toInt64)) * (-49064778989728563 : Int64)) ^^^ ((((q0 ^^^ ((q0.toUInt64 >>> ((33 : Int32) &&& 0x3f).toInt64.toUInt64).toInt64)) * (-49064778989728563 : Int64)).toUInt64 >>> ((33 : Int32) &&& 0x3f).toInt64.toUInt64).toInt64)) * (-4265267296055464877 : Int64)))]))
  refine own_st (fun _ => XS.lloadN X0.here hx rfl (hb hby own_dfin_29) rfl) ?_
  show own_End p e below P (s₁.setTop (mkF m 30 #[.val (.long q0), .second, .val (.long ((((q0 ^^^ ((q0.toUInt64 >>> ((33 : Int32) &&& 0x3f).toInt64.toUInt64).toInt64)) * (-49064778989728563 : Int64)) ^^^ ((((q0 ^^^ ((q0.toUInt64 >>> ((33 : Int32) &&& 0x3f).toInt64.toUInt64).toInt64)) * (-49064778989728563 : Int64)).toUInt64 >>> ((33 : Int32) &&& 0x3f).toInt64.toUInt64).toInt64)) * (-4265267296055464877 : Int64))), .second] [(.long ((((q0 ^^^ ((q0.toUInt64 >>> ((33 : Int32) &&& 0x3f).toInt64.toUInt64).toInt64)) * (-49064778989728563 : Int64)) ^^^ ((((q0 ^^^ ((q0.toUInt64 >>> ((33 : Int32) &&& 0x3f).toInt64.toUInt64).toInt64)) * (-49064778989728563 : Int64)).toUInt64 >>> ((33 : Int32) &&& 0x3f).toInt64.toUInt64).toInt64)) * (-4265267296055464877 : Int64))), (.long ((((q0 ^^^ ((q0.toUInt64 >>> ((33 : Int32) &&& 0x3f).toInt64.toUInt64).toInt64)) * (-49064778989728563 : Int64)) ^^^ ((((q0 ^^^ ((q0.toUInt64 >>> ((33 : Int32) &&& 0x3f).toInt64.toUInt64).toInt64)) * (-49064778989728563 : Int64)).toUInt64 >>> ((33 : Int32) &&& 0x3f).toInt64.toUInt64).toInt64)) * (-4265267296055464877 : Int64)))]))
  refine own_st (fun _ => XS.bipush X0.here hx rfl (hb hby own_dfin_30)) ?_
  show own_End p e below P (s₁.setTop (mkF m 32 #[.val (.long q0), .second, .val (.long ((((q0 ^^^ ((q0.toUInt64 >>> ((33 : Int32) &&& 0x3f).toInt64.toUInt64).toInt64)) * (-49064778989728563 : Int64)) ^^^ ((((q0 ^^^ ((q0.toUInt64 >>> ((33 : Int32) &&& 0x3f).toInt64.toUInt64).toInt64)) * (-49064778989728563 : Int64)).toUInt64 >>> ((33 : Int32) &&& 0x3f).toInt64.toUInt64).toInt64)) * (-4265267296055464877 : Int64))), .second] [(.int (33 : Int32)), (.long ((((q0 ^^^ ((q0.toUInt64 >>> ((33 : Int32) &&& 0x3f).toInt64.toUInt64).toInt64)) * (-49064778989728563 : Int64)) ^^^ ((((q0 ^^^ ((q0.toUInt64 >>> ((33 : Int32) &&& 0x3f).toInt64.toUInt64).toInt64)) * (-49064778989728563 : Int64)).toUInt64 >>> ((33 : Int32) &&& 0x3f).toInt64.toUInt64).toInt64)) * (-4265267296055464877 : Int64))), (.long ((((q0 ^^^ ((q0.toUInt64 >>> ((33 : Int32) &&& 0x3f).toInt64.toUInt64).toInt64)) * (-49064778989728563 : Int64)) ^^^ ((((q0 ^^^ ((q0.toUInt64 >>> ((33 : Int32) &&& 0x3f).toInt64.toUInt64).toInt64)) * (-49064778989728563 : Int64)).toUInt64 >>> ((33 : Int32) &&& 0x3f).toInt64.toUInt64).toInt64)) * (-4265267296055464877 : Int64)))]))
  refine own_st (fun _ => XS.lushr X0.here hx rfl (hb hby own_dfin_32) rfl) ?_
  show own_End p e below P (s₁.setTop (mkF m 33 #[.val (.long q0), .second, .val (.long ((((q0 ^^^ ((q0.toUInt64 >>> ((33 : Int32) &&& 0x3f).toInt64.toUInt64).toInt64)) * (-49064778989728563 : Int64)) ^^^ ((((q0 ^^^ ((q0.toUInt64 >>> ((33 : Int32) &&& 0x3f).toInt64.toUInt64).toInt64)) * (-49064778989728563 : Int64)).toUInt64 >>> ((33 : Int32) &&& 0x3f).toInt64.toUInt64).toInt64)) * (-4265267296055464877 : Int64))), .second] [(.long ((((((q0 ^^^ ((q0.toUInt64 >>> ((33 : Int32) &&& 0x3f).toInt64.toUInt64).toInt64)) * (-49064778989728563 : Int64)) ^^^ ((((q0 ^^^ ((q0.toUInt64 >>> ((33 : Int32) &&& 0x3f).toInt64.toUInt64).toInt64)) * (-49064778989728563 : Int64)).toUInt64 >>> ((33 : Int32) &&& 0x3f).toInt64.toUInt64).toInt64)) * (-4265267296055464877 : Int64)).toUInt64 >>> ((33 : Int32) &&& 0x3f).toInt64.toUInt64).toInt64)), (.long ((((q0 ^^^ ((q0.toUInt64 >>> ((33 : Int32) &&& 0x3f).toInt64.toUInt64).toInt64)) * (-49064778989728563 : Int64)) ^^^ ((((q0 ^^^ ((q0.toUInt64 >>> ((33 : Int32) &&& 0x3f).toInt64.toUInt64).toInt64)) * (-49064778989728563 : Int64)).toUInt64 >>> ((33 : Int32) &&& 0x3f).toInt64.toUInt64).toInt64)) * (-4265267296055464877 : Int64)))]))
  refine own_st (fun _ => XS.lxor X0.here hx rfl (hb hby own_dfin_33) rfl) ?_
  show own_End p e below P (s₁.setTop (mkF m 34 #[.val (.long q0), .second, .val (.long ((((q0 ^^^ ((q0.toUInt64 >>> ((33 : Int32) &&& 0x3f).toInt64.toUInt64).toInt64)) * (-49064778989728563 : Int64)) ^^^ ((((q0 ^^^ ((q0.toUInt64 >>> ((33 : Int32) &&& 0x3f).toInt64.toUInt64).toInt64)) * (-49064778989728563 : Int64)).toUInt64 >>> ((33 : Int32) &&& 0x3f).toInt64.toUInt64).toInt64)) * (-4265267296055464877 : Int64))), .second] [(.long (((((q0 ^^^ ((q0.toUInt64 >>> ((33 : Int32) &&& 0x3f).toInt64.toUInt64).toInt64)) * (-49064778989728563 : Int64)) ^^^ ((((q0 ^^^ ((q0.toUInt64 >>> ((33 : Int32) &&& 0x3f).toInt64.toUInt64).toInt64)) * (-49064778989728563 : Int64)).toUInt64 >>> ((33 : Int32) &&& 0x3f).toInt64.toUInt64).toInt64)) * (-4265267296055464877 : Int64)) ^^^ ((((((q0 ^^^ ((q0.toUInt64 >>> ((33 : Int32) &&& 0x3f).toInt64.toUInt64).toInt64)) * (-49064778989728563 : Int64)) ^^^ ((((q0 ^^^ ((q0.toUInt64 >>> ((33 : Int32) &&& 0x3f).toInt64.toUInt64).toInt64)) * (-49064778989728563 : Int64)).toUInt64 >>> ((33 : Int32) &&& 0x3f).toInt64.toUInt64).toInt64)) * (-4265267296055464877 : Int64)).toUInt64 >>> ((33 : Int32) &&& 0x3f).toInt64.toUInt64).toInt64)))]))
  refine own_st (fun _ => XS.lstoreN X0.here hx rfl (hb hby own_dfin_34) rfl (l' := #[.val (.long q0), .second, .val (.long (((((q0 ^^^ ((q0.toUInt64 >>> ((33 : Int32) &&& 0x3f).toInt64.toUInt64).toInt64)) * (-49064778989728563 : Int64)) ^^^ ((((q0 ^^^ ((q0.toUInt64 >>> ((33 : Int32) &&& 0x3f).toInt64.toUInt64).toInt64)) * (-49064778989728563 : Int64)).toUInt64 >>> ((33 : Int32) &&& 0x3f).toInt64.toUInt64).toInt64)) * (-4265267296055464877 : Int64)) ^^^ ((((((q0 ^^^ ((q0.toUInt64 >>> ((33 : Int32) &&& 0x3f).toInt64.toUInt64).toInt64)) * (-49064778989728563 : Int64)) ^^^ ((((q0 ^^^ ((q0.toUInt64 >>> ((33 : Int32) &&& 0x3f).toInt64.toUInt64).toInt64)) * (-49064778989728563 : Int64)).toUInt64 >>> ((33 : Int32) &&& 0x3f).toInt64.toUInt64).toInt64)) * (-4265267296055464877 : Int64)).toUInt64 >>> ((33 : Int32) &&& 0x3f).toInt64.toUInt64).toInt64))), .second]) rfl) ?_
  show own_End p e below P (s₁.setTop (mkF m 35 #[.val (.long q0), .second, .val (.long (((((q0 ^^^ ((q0.toUInt64 >>> ((33 : Int32) &&& 0x3f).toInt64.toUInt64).toInt64)) * (-49064778989728563 : Int64)) ^^^ ((((q0 ^^^ ((q0.toUInt64 >>> ((33 : Int32) &&& 0x3f).toInt64.toUInt64).toInt64)) * (-49064778989728563 : Int64)).toUInt64 >>> ((33 : Int32) &&& 0x3f).toInt64.toUInt64).toInt64)) * (-4265267296055464877 : Int64)) ^^^ ((((((q0 ^^^ ((q0.toUInt64 >>> ((33 : Int32) &&& 0x3f).toInt64.toUInt64).toInt64)) * (-49064778989728563 : Int64)) ^^^ ((((q0 ^^^ ((q0.toUInt64 >>> ((33 : Int32) &&& 0x3f).toInt64.toUInt64).toInt64)) * (-49064778989728563 : Int64)).toUInt64 >>> ((33 : Int32) &&& 0x3f).toInt64.toUInt64).toInt64)) * (-4265267296055464877 : Int64)).toUInt64 >>> ((33 : Int32) &&& 0x3f).toInt64.toUInt64).toInt64))), .second] []))
  refine own_st (fun _ => XS.lloadN X0.here hx rfl (hb hby own_dfin_35) rfl) ?_
  show own_End p e below P (s₁.setTop (mkF m 36 #[.val (.long q0), .second, .val (.long (((((q0 ^^^ ((q0.toUInt64 >>> ((33 : Int32) &&& 0x3f).toInt64.toUInt64).toInt64)) * (-49064778989728563 : Int64)) ^^^ ((((q0 ^^^ ((q0.toUInt64 >>> ((33 : Int32) &&& 0x3f).toInt64.toUInt64).toInt64)) * (-49064778989728563 : Int64)).toUInt64 >>> ((33 : Int32) &&& 0x3f).toInt64.toUInt64).toInt64)) * (-4265267296055464877 : Int64)) ^^^ ((((((q0 ^^^ ((q0.toUInt64 >>> ((33 : Int32) &&& 0x3f).toInt64.toUInt64).toInt64)) * (-49064778989728563 : Int64)) ^^^ ((((q0 ^^^ ((q0.toUInt64 >>> ((33 : Int32) &&& 0x3f).toInt64.toUInt64).toInt64)) * (-49064778989728563 : Int64)).toUInt64 >>> ((33 : Int32) &&& 0x3f).toInt64.toUInt64).toInt64)) * (-4265267296055464877 : Int64)).toUInt64 >>> ((33 : Int32) &&& 0x3f).toInt64.toUInt64).toInt64))), .second] [(.long (((((q0 ^^^ ((q0.toUInt64 >>> ((33 : Int32) &&& 0x3f).toInt64.toUInt64).toInt64)) * (-49064778989728563 : Int64)) ^^^ ((((q0 ^^^ ((q0.toUInt64 >>> ((33 : Int32) &&& 0x3f).toInt64.toUInt64).toInt64)) * (-49064778989728563 : Int64)).toUInt64 >>> ((33 : Int32) &&& 0x3f).toInt64.toUInt64).toInt64)) * (-4265267296055464877 : Int64)) ^^^ ((((((q0 ^^^ ((q0.toUInt64 >>> ((33 : Int32) &&& 0x3f).toInt64.toUInt64).toInt64)) * (-49064778989728563 : Int64)) ^^^ ((((q0 ^^^ ((q0.toUInt64 >>> ((33 : Int32) &&& 0x3f).toInt64.toUInt64).toInt64)) * (-49064778989728563 : Int64)).toUInt64 >>> ((33 : Int32) &&& 0x3f).toInt64.toUInt64).toInt64)) * (-4265267296055464877 : Int64)).toUInt64 >>> ((33 : Int32) &&& 0x3f).toInt64.toUInt64).toInt64)))]))
  refine own_retL X0 hx hlk hP hrt (hb hby own_dfin_36) (by decide) (by decide) ⟨congrArg (fun z => some (Value.long z)) ?_, N0, e0⟩
  exact (show own_ffin q0 = (((((q0 ^^^ ((q0.toUInt64 >>> ((33 : Int32) &&& 0x3f).toInt64.toUInt64).toInt64)) * (-49064778989728563 : Int64)) ^^^ ((((q0 ^^^ ((q0.toUInt64 >>> ((33 : Int32) &&& 0x3f).toInt64.toUInt64).toInt64)) * (-49064778989728563 : Int64)).toUInt64 >>> ((33 : Int32) &&& 0x3f).toInt64.toUInt64).toInt64)) * (-4265267296055464877 : Int64)) ^^^ ((((((q0 ^^^ ((q0.toUInt64 >>> ((33 : Int32) &&& 0x3f).toInt64.toUInt64).toInt64)) * (-49064778989728563 : Int64)) ^^^ ((((q0 ^^^ ((q0.toUInt64 >>> ((33 : Int32) &&& 0x3f).toInt64.toUInt64).toInt64)) * (-49064778989728563 : Int64)).toUInt64 >>> ((33 : Int32) &&& 0x3f).toInt64.toUInt64).toInt64)) * (-4265267296055464877 : Int64)).toUInt64 >>> ((33 : Int32) &&& 0x3f).toInt64.toUInt64).toInt64)) from rfl).symm
theorem own_dmax_0 : decode jdk_29_method_65_code 0 = .ok (.iload_n 0, 1) := by decide +kernel
theorem own_dmax_1 : decode jdk_29_method_65_code 1 = .ok (.iload_n 1, 1) := by decide +kernel
theorem own_dmax_2 : decode jdk_29_method_65_code 2 = .ok (.if_icmp .lt 7, 3) := by decide +kernel
theorem own_dmax_9 : decode jdk_29_method_65_code 9 = .ok (.iload_n 1, 1) := by decide +kernel
theorem own_dmax_10 : decode jdk_29_method_65_code 10 = .ok (.ireturn, 1) := by decide +kernel
theorem own_dmax_5 : decode jdk_29_method_65_code 5 = .ok (.iload_n 0, 1) := by decide +kernel
theorem own_dmax_6 : decode jdk_29_method_65_code 6 = .ok (.goto 4, 3) := by decide +kernel
theorem own_efmax (m : MethodId) (p0 : Int32) (p1 : Int32) : entryFrame m #[(.int p0), (.int p1)] 2 = mkF m 0 #[.val (.int p0), .val (.int p1)] [] := by first | (simp [entryFrame, mkF, argsToLocals, Value.category]; done) | rfl
def own_fmax (p0 : Int32) (p1 : Int32) : Int32 := (if p0 < p1 then p1 else p0)
set_option maxRecDepth 65536 in
set_option maxHeartbeats 40000000 in
theorem own_mmax (l : Launch) (Z : State) (a0 : Array Value) (hw : ∀ d ∈ tables_1, d.before a0 Z = true) (ws : List Jvm.Cond) (p0 : Int32) (p1 : Int32)  (h0 : Heap) (n0 : Nat) (Z0 : n0 ≤ h0.size)  :
    own_Met l Z (⟨"java/lang/Math", "max", "(II)I"⟩ : MethodName) jdk_29_method_65_code 2 (some .int) ws ({ frames := 0, cells := 0, slots := 0, locals := 0 } : Room) #[(.int p0), (.int p1)] h0 (fun (v : Option Value) (h : Heap) (L : List Loc) => v = some (.int (own_fmax p0 p1)) ∧ Fr n0 L ∧ h = h0) := by
  refine own_enter (Jvm.Free.JP.mathPlain rfl (by decide +kernel)) ?_
  intro p e s m below meth c s₁ P hx hby hml hrt hlk hown hnm hZ X0 e0 hP
  have N0 := Fr.nil n0
  have K0 := Keep.refl h0 []
  have hml' : c.maxLocals = 2 := hml
  refine own_cast (own_efmax m p0 p1) ?_
  show own_End p e below P (s₁.setTop (mkF m 0 #[.val (.int p0), .val (.int p1)] []))
  refine own_st (fun _ => XS.iloadN X0.here hx rfl (hb hby own_dmax_0) rfl) ?_
  show own_End p e below P (s₁.setTop (mkF m 1 #[.val (.int p0), .val (.int p1)] [(.int p0)]))
  refine own_st (fun _ => XS.iloadN X0.here hx rfl (hb hby own_dmax_1) rfl) ?_
  show own_End p e below P (s₁.setTop (mkF m 2 #[.val (.int p0), .val (.int p1)] [(.int p1), (.int p0)]))
  by_cases hc1 : p0 < p1
  · refine own_st (fun _ => XS.icmpYes X0.here hx rfl (pc0 := 2) (pc' := 9) rfl (hb hby own_dmax_2) rfl (tlt hc1).1 (by decide) (by decide)) ?_
    show own_End p e below P (s₁.setTop (mkF m 9 #[.val (.int p0), .val (.int p1)] []))
    refine own_st (fun _ => XS.iloadN X0.here hx rfl (hb hby own_dmax_9) rfl) ?_
    show own_End p e below P (s₁.setTop (mkF m 10 #[.val (.int p0), .val (.int p1)] [(.int p1)]))
    refine own_retI X0 hx hlk hP hrt (hb hby own_dmax_10) (by decide) (by decide) ⟨congrArg (fun z => some (Value.int z)) ?_, N0, e0⟩
    exact (show own_fmax p0 p1 = p1 from (if_pos hc1).trans (rfl)).symm
  · refine own_st (fun _ => XS.icmpNo X0.here hx rfl (hb hby own_dmax_2) rfl (flt hc1).1) ?_
    show own_End p e below P (s₁.setTop (mkF m 5 #[.val (.int p0), .val (.int p1)] []))
    refine own_st (fun _ => XS.iloadN X0.here hx rfl (hb hby own_dmax_5) rfl) ?_
    show own_End p e below P (s₁.setTop (mkF m 6 #[.val (.int p0), .val (.int p1)] [(.int p0)]))
    refine own_st (fun _ => XS.goto X0.here hx rfl (pc0 := 6) (pc' := 10) rfl (hb hby own_dmax_6) (by decide) (by decide)) ?_
    show own_End p e below P (s₁.setTop (mkF m 10 #[.val (.int p0), .val (.int p1)] [(.int p0)]))
    refine own_retI X0 hx hlk hP hrt (hb hby own_dmax_10) (by decide) (by decide) ⟨congrArg (fun z => some (Value.int z)) ?_, N0, e0⟩
    exact (show own_fmax p0 p1 = p0 from (if_neg hc1).trans (rfl)).symm
theorem own_dmulx_0 : decode jdk_29_method_28_code 0 = .ok (.iload_n 0, 1) := by decide +kernel
theorem own_dmulx_1 : decode jdk_29_method_28_code 1 = .ok (.i2l, 1) := by decide +kernel
theorem own_dmulx_2 : decode jdk_29_method_28_code 2 = .ok (.iload_n 1, 1) := by decide +kernel
theorem own_dmulx_3 : decode jdk_29_method_28_code 3 = .ok (.i2l, 1) := by decide +kernel
theorem own_dmulx_4 : decode jdk_29_method_28_code 4 = .ok (.lmul, 1) := by decide +kernel
theorem own_dmulx_5 : decode jdk_29_method_28_code 5 = .ok (.lstore_n 2, 1) := by decide +kernel
theorem own_dmulx_6 : decode jdk_29_method_28_code 6 = .ok (.lload_n 2, 1) := by decide +kernel
theorem own_dmulx_7 : decode jdk_29_method_28_code 7 = .ok (.l2i, 1) := by decide +kernel
theorem own_dmulx_8 : decode jdk_29_method_28_code 8 = .ok (.i2l, 1) := by decide +kernel
theorem own_dmulx_9 : decode jdk_29_method_28_code 9 = .ok (.lload_n 2, 1) := by decide +kernel
theorem own_dmulx_10 : decode jdk_29_method_28_code 10 = .ok (.lcmp, 1) := by decide +kernel
theorem own_dmulx_11 : decode jdk_29_method_28_code 11 = .ok (.ifCond .eq 13, 3) := by decide +kernel
theorem own_dmulx_24 : decode jdk_29_method_28_code 24 = .ok (.lload_n 2, 1) := by decide +kernel
theorem own_dmulx_25 : decode jdk_29_method_28_code 25 = .ok (.l2i, 1) := by decide +kernel
theorem own_dmulx_26 : decode jdk_29_method_28_code 26 = .ok (.ireturn, 1) := by decide +kernel
theorem own_efmulx (m : MethodId) (p1 : Int32) : entryFrame m #[(.int (2 : Int32)), (.int p1)] 4 = mkF m 0 #[.val (.int (2 : Int32)), .val (.int p1), .unset, .unset] [] := by first | (simp [entryFrame, mkF, argsToLocals, Value.category]; done) | rfl
def own_fmulx (p1 : Int32) : Int32 := ((((2 : Int32).toInt64) * (p1.toInt64)).toInt32)
set_option maxRecDepth 65536 in
set_option maxHeartbeats 40000000 in
theorem own_mmulx (l : Launch) (Z : State) (a0 : Array Value) (hw : ∀ d ∈ tables_1, d.before a0 Z = true) (ws : List Jvm.Cond) (p1 : Int32)  (h0 : Heap) (n0 : Nat) (Z0 : n0 ≤ h0.size) (hbd : 0 ≤ p1.toInt ∧ p1.toInt ≤ 32768) :
    own_Met l Z (⟨"java/lang/Math", "multiplyExact", "(II)I"⟩ : MethodName) jdk_29_method_28_code 4 (some .int) ws ({ frames := 0, cells := 0, slots := 0, locals := 0 } : Room) #[(.int (2 : Int32)), (.int p1)] h0 (fun (v : Option Value) (h : Heap) (L : List Loc) => v = some (.int (own_fmulx p1)) ∧ Fr n0 L ∧ h = h0) := by
  refine own_enter (Jvm.Free.JP.mathPlain rfl (by decide +kernel)) ?_
  intro p e s m below meth c s₁ P hx hby hml hrt hlk hown hnm hZ X0 e0 hP
  have N0 := Fr.nil n0
  have K0 := Keep.refl h0 []
  have hml' : c.maxLocals = 4 := hml
  refine own_cast (own_efmulx m p1) ?_
  show own_End p e below P (s₁.setTop (mkF m 0 #[.val (.int (2 : Int32)), .val (.int p1), .unset, .unset] []))
  refine own_st (fun _ => XS.iloadN X0.here hx rfl (hb hby own_dmulx_0) rfl) ?_
  show own_End p e below P (s₁.setTop (mkF m 1 #[.val (.int (2 : Int32)), .val (.int p1), .unset, .unset] [(.int (2 : Int32))]))
  refine own_st (fun _ => XS.i2l X0.here hx rfl (hb hby own_dmulx_1) rfl) ?_
  show own_End p e below P (s₁.setTop (mkF m 2 #[.val (.int (2 : Int32)), .val (.int p1), .unset, .unset] [(.long ((2 : Int32).toInt64))]))
  refine own_st (fun _ => XS.iloadN X0.here hx rfl (hb hby own_dmulx_2) rfl) ?_
  show own_End p e below P (s₁.setTop (mkF m 3 #[.val (.int (2 : Int32)), .val (.int p1), .unset, .unset] [(.int p1), (.long ((2 : Int32).toInt64))]))
  refine own_st (fun _ => XS.i2l X0.here hx rfl (hb hby own_dmulx_3) rfl) ?_
  show own_End p e below P (s₁.setTop (mkF m 4 #[.val (.int (2 : Int32)), .val (.int p1), .unset, .unset] [(.long (p1.toInt64)), (.long ((2 : Int32).toInt64))]))
  refine own_st (fun _ => XS.lmul X0.here hx rfl (hb hby own_dmulx_4) rfl) ?_
  show own_End p e below P (s₁.setTop (mkF m 5 #[.val (.int (2 : Int32)), .val (.int p1), .unset, .unset] [(.long (((2 : Int32).toInt64) * (p1.toInt64)))]))
  refine own_st (fun _ => XS.lstoreN X0.here hx rfl (hb hby own_dmulx_5) rfl (l' := #[.val (.int (2 : Int32)), .val (.int p1), .val (.long (((2 : Int32).toInt64) * (p1.toInt64))), .second]) rfl) ?_
  show own_End p e below P (s₁.setTop (mkF m 6 #[.val (.int (2 : Int32)), .val (.int p1), .val (.long (((2 : Int32).toInt64) * (p1.toInt64))), .second] []))
  refine own_st (fun _ => XS.lloadN X0.here hx rfl (hb hby own_dmulx_6) rfl) ?_
  show own_End p e below P (s₁.setTop (mkF m 7 #[.val (.int (2 : Int32)), .val (.int p1), .val (.long (((2 : Int32).toInt64) * (p1.toInt64))), .second] [(.long (((2 : Int32).toInt64) * (p1.toInt64)))]))
  refine own_st (fun _ => XS.l2i X0.here hx rfl (hb hby own_dmulx_7) rfl) ?_
  show own_End p e below P (s₁.setTop (mkF m 8 #[.val (.int (2 : Int32)), .val (.int p1), .val (.long (((2 : Int32).toInt64) * (p1.toInt64))), .second] [(.int ((((2 : Int32).toInt64) * (p1.toInt64)).toInt32))]))
  refine own_st (fun _ => XS.i2l X0.here hx rfl (hb hby own_dmulx_8) rfl) ?_
  show own_End p e below P (s₁.setTop (mkF m 9 #[.val (.int (2 : Int32)), .val (.int p1), .val (.long (((2 : Int32).toInt64) * (p1.toInt64))), .second] [(.long (((((2 : Int32).toInt64) * (p1.toInt64)).toInt32).toInt64))]))
  refine own_st (fun _ => XS.lloadN X0.here hx rfl (hb hby own_dmulx_9) rfl) ?_
  show own_End p e below P (s₁.setTop (mkF m 10 #[.val (.int (2 : Int32)), .val (.int p1), .val (.long (((2 : Int32).toInt64) * (p1.toInt64))), .second] [(.long (((2 : Int32).toInt64) * (p1.toInt64))), (.long (((((2 : Int32).toInt64) * (p1.toInt64)).toInt32).toInt64))]))
  refine own_st (fun _ => XS.lcmp X0.here hx rfl (hb hby own_dmulx_10) rfl) ?_
  show own_End p e below P (s₁.setTop (mkF m 11 #[.val (.int (2 : Int32)), .val (.int p1), .val (.long (((2 : Int32).toInt64) * (p1.toInt64))), .second] [(.int (lcmpW (((((2 : Int32).toInt64) * (p1.toInt64)).toInt32).toInt64) (((2 : Int32).toInt64) * (p1.toInt64))))]))
  have hd1 : (((((2 : Int32).toInt64) * (p1.toInt64)).toInt32).toInt64) = (((2 : Int32).toInt64) * (p1.toInt64)) := by exact own_mx hbd
  refine own_st (fun _ => XS.ifYes X0.here hx rfl (pc0 := 11) (pc' := 24) rfl (hb hby own_dmulx_11) rfl ((if0 _ _).trans (teq (own_eq.mpr hd1)).1) (by decide) (by decide)) ?_
  show own_End p e below P (s₁.setTop (mkF m 24 #[.val (.int (2 : Int32)), .val (.int p1), .val (.long (((2 : Int32).toInt64) * (p1.toInt64))), .second] []))
  refine own_st (fun _ => XS.lloadN X0.here hx rfl (hb hby own_dmulx_24) rfl) ?_
  show own_End p e below P (s₁.setTop (mkF m 25 #[.val (.int (2 : Int32)), .val (.int p1), .val (.long (((2 : Int32).toInt64) * (p1.toInt64))), .second] [(.long (((2 : Int32).toInt64) * (p1.toInt64)))]))
  refine own_st (fun _ => XS.l2i X0.here hx rfl (hb hby own_dmulx_25) rfl) ?_
  show own_End p e below P (s₁.setTop (mkF m 26 #[.val (.int (2 : Int32)), .val (.int p1), .val (.long (((2 : Int32).toInt64) * (p1.toInt64))), .second] [(.int ((((2 : Int32).toInt64) * (p1.toInt64)).toInt32))]))
  refine own_retI X0 hx hlk hP hrt (hb hby own_dmulx_26) (by decide) (by decide) ⟨congrArg (fun z => some (Value.int z)) ?_, N0, e0⟩
  exact (show own_fmulx p1 = ((((2 : Int32).toInt64) * (p1.toInt64)).toInt32) from rfl).symm
def own_pl : Nat → Int32 → Int32 → Int32
  | 0, _, p => p
  | k + 1, m, p => if ((3 : Int64) * (p.toInt64)) < ((4 : Int64) * (m.toInt64)) then own_pl k m (own_fmulx p) else p
def own_plc (m : Int32) : Int32 := own_pl 12 m (if m = (0 : Int32) then (0 : Int32) else (16 : Int32))
theorem own_pl_t {k : Nat} {m p : Int32} (h : ((3 : Int64) * (p.toInt64)) < ((4 : Int64) * (m.toInt64))) : own_pl (k + 1) m p = own_pl k m (own_fmulx p) := if_pos h
theorem own_pl_f {k : Nat} {m p : Int32} (h : ¬ ((3 : Int64) * (p.toInt64)) < ((4 : Int64) * (m.toInt64))) : own_pl (k + 1) m p = p := if_neg h
def own_Iv (m p : Int32) (k : Nat) : Prop := (m = (0 : Int32) ∧ p = (0 : Int32)) ∨ (p.toInt = ((2 ^ (16 - k) : Nat) : Int) ∧ k ≤ 12 ∧ 1 ≤ k)
theorem own_Iv_bound {m p : Int32} {k : Nat} (h : own_Iv m p k) (hm : 0 ≤ m.toInt ∧ m.toInt ≤ 16383) : 0 ≤ p.toInt ∧ p.toInt ≤ 32768 := by
  rcases h with ⟨-, rfl⟩ | ⟨e, h1, h2⟩
  · decide
  · have q : 2 ^ (16 - k) ≤ 2 ^ 15 := Nat.pow_le_pow_right (by decide) (by omega)
    rw [e]; generalize 2 ^ (16 - k) = w at q; omega
theorem own_Iv_start {m p : Int32} (e : p = if m = (0 : Int32) then (0 : Int32) else (16 : Int32)) : own_Iv m p 12 := by
  rw [e]
  by_cases hz : m = (0 : Int32)
  · rw [if_pos hz]; exact Or.inl ⟨hz, rfl⟩
  · rw [if_neg hz]; exact Or.inr ⟨by decide, by decide, by decide⟩
theorem own_Iv_zero {m p : Int32} (h : own_Iv m p 0) : ¬ (((3 : Int64) * (p.toInt64)) < ((4 : Int64) * (m.toInt64))) := by
  rcases h with ⟨rfl, rfl⟩ | ⟨-, -, q⟩
  · decide
  · exact absurd q (by decide)
theorem own_Iv_step {m p : Int32} {k : Nat} (h : own_Iv m p (k + 1)) (hm : 0 ≤ m.toInt ∧ m.toInt ≤ 16383) (c : ((3 : Int64) * (p.toInt64)) < ((4 : Int64) * (m.toInt64))) : own_Iv m (own_fmulx p) k := by
  have hb := own_Iv_bound h hm
  rw [own_cmp p m (by omega) (by omega)] at c
  rcases h with ⟨rfl, rfl⟩ | ⟨e, h1, h2⟩
  · exact absurd c (by decide)
  · refine Or.inr ⟨?_, by omega, ?_⟩
    · show (((2 : Int32).toInt64 * p.toInt64).toInt32).toInt = _
      rw [own_dbl32 hb, e]
      have : 16 - k = (16 - (k + 1)) + 1 := by omega
      rw [this, Nat.pow_succ]; omega
    · rcases Nat.eq_zero_or_pos k with rfl | q
      · rw [e] at c; exfalso; have : ((2 ^ (16 - (0 + 1)) : Nat) : Int) = 32768 := by decide
        omega
      · exact q
theorem own_dplaces_0 : decode prog_8_method_13_code 0 = .ok (.iload_n 0, 1) := by decide +kernel
theorem own_dplaces_1 : decode prog_8_method_13_code 1 = .ok (.ifCond .ne 7, 3) := by decide +kernel
theorem own_dplaces_4 : decode prog_8_method_13_code 4 = .ok (.iconst 0, 1) := by decide +kernel
theorem own_dplaces_5 : decode prog_8_method_13_code 5 = .ok (.goto 5, 3) := by decide +kernel
theorem own_dplaces_8 : decode prog_8_method_13_code 8 = .ok (.bipush 16, 2) := by decide +kernel
theorem own_dplaces_10 : decode prog_8_method_13_code 10 = .ok (.istore_n 1, 1) := by decide +kernel
theorem own_dplaces_11 : decode prog_8_method_13_code 11 = .ok (.ldc2_w 37, 3) := by decide +kernel
theorem own_dplaces_14 : decode prog_8_method_13_code 14 = .ok (.iload_n 0, 1) := by decide +kernel
theorem own_dplaces_15 : decode prog_8_method_13_code 15 = .ok (.i2l, 1) := by decide +kernel
theorem own_dplaces_16 : decode prog_8_method_13_code 16 = .ok (.lmul, 1) := by decide +kernel
theorem own_dplaces_17 : decode prog_8_method_13_code 17 = .ok (.ldc2_w 39, 3) := by decide +kernel
theorem own_dplaces_20 : decode prog_8_method_13_code 20 = .ok (.iload_n 1, 1) := by decide +kernel
theorem own_dplaces_21 : decode prog_8_method_13_code 21 = .ok (.i2l, 1) := by decide +kernel
theorem own_dplaces_22 : decode prog_8_method_13_code 22 = .ok (.lmul, 1) := by decide +kernel
theorem own_dplaces_23 : decode prog_8_method_13_code 23 = .ok (.lcmp, 1) := by decide +kernel
theorem own_dplaces_24 : decode prog_8_method_13_code 24 = .ok (.ifCond .le 12, 3) := by decide +kernel
theorem own_dplaces_36 : decode prog_8_method_13_code 36 = .ok (.iload_n 1, 1) := by decide +kernel
theorem own_dplaces_37 : decode prog_8_method_13_code 37 = .ok (.ireturn, 1) := by decide +kernel
theorem own_dplaces_27 : decode prog_8_method_13_code 27 = .ok (.iconst 2, 1) := by decide +kernel
theorem own_dplaces_28 : decode prog_8_method_13_code 28 = .ok (.iload_n 1, 1) := by decide +kernel
theorem own_dplaces_29 : decode prog_8_method_13_code 29 = .ok (.invokestatic 63, 3) := by decide +kernel
theorem own_pd_II_I_300 : parseMethodDescriptor "(II)I" = some ⟨[.int, .int], some .int⟩ := by decide +kernel
theorem own_dplaces_32 : decode prog_8_method_13_code 32 = .ok (.istore_n 1, 1) := by decide +kernel
theorem own_dplaces_33 : decode prog_8_method_13_code 33 = .ok (.goto (-22), 3) := by decide +kernel
theorem own_efplaces (m : MethodId) (p0 : Int32) : entryFrame m #[(.int p0)] 2 = mkF m 0 #[.val (.int p0), .unset] [] := by first | (simp [entryFrame, mkF, argsToLocals, Value.category]; done) | rfl
theorem own_pn_com_example_defnot_defnot_CuckooStash : plainName "com/example/defnot/defnot/CuckooStash" = true := by first | (simp [plainName, overriddenIn]; done) | decide +kernel
set_option maxRecDepth 65536 in
set_option maxHeartbeats 40000000 in
theorem own_mplaces (l : Launch) (Z : State) (a0 : Array Value) (hw : ∀ d ∈ tables_1, d.before a0 Z = true) (ws : List Jvm.Cond) (p0 : Int32)  (h0 : Heap) (n0 : Nat) (Z0 : n0 ≤ h0.size) (hm : 0 ≤ p0.toInt ∧ p0.toInt ≤ 16383) :
    own_Met l Z (⟨"com/example/defnot/defnot/CuckooStash", "places", "(I)I"⟩ : MethodName) prog_8_method_13_code 2 (some .int) ws ({ frames := 1, cells := 0, slots := 0, locals := 15 } : Room) #[(.int p0)] h0 (fun (v : Option Value) (h : Heap) (L : List Loc) => v = some (.int (own_plc p0)) ∧ Fr n0 L ∧ h = h0) := by
  refine own_enter (plainFor_of_name own_pn_com_example_defnot_defnot_CuckooStash) ?_
  intro p e s m below meth c s₁ P hx hby hml hrt hlk hown hnm hZ X0 e0 hP
  have N0 := Fr.nil n0
  have K0 := Keep.refl h0 []
  have hml' : c.maxLocals = 2 := hml
  refine own_cast (own_efplaces m p0) ?_
  show own_End p e below P (s₁.setTop (mkF m 0 #[.val (.int p0), .unset] []))
  refine own_st (fun _ => XS.iloadN X0.here hx rfl (hb hby own_dplaces_0) rfl) ?_
  show own_End p e below P (s₁.setTop (mkF m 1 #[.val (.int p0), .unset] [(.int p0)]))
  have J3 : ∀ v2 : Int32, v2 = (if p0 = (0 : Int32) then (0 : Int32) else (16 : Int32)) → own_End p e below P (s₁.setTop (mkF m 10 #[.val (.int p0), .unset] [(.int v2)])) := by
    intro v2 e_v2
    refine own_st (fun _ => XS.istoreN X0.here hx rfl (hb hby own_dplaces_10) rfl (l' := #[.val (.int p0), .val (.int v2)]) rfl) ?_
    show own_End p e below P (s₁.setTop (mkF m 11 #[.val (.int p0), .val (.int v2)] []))
    have loop : ∀ (k : Nat) (p_ : Int32) (Tl : State) (Ll : List Loc), Stand p l e ({ frames := 1, cells := 0, slots := 0, locals := 15 } : Room) s m #[(.int p0)] below meth c Tl Ll 0 0 → Tl.heap = h0 → Fr n0 Ll → own_Iv p0 p_ k → own_pl k p0 p_ = own_plc p0 → own_End p e below P (Tl.setTop (mkF m 11 #[.val (.int p0), .val (.int p_)] [])) := by
      intro k
      induction k with
      | zero => 
        intro p_ Tl Ll Xl el Nl hI hR
        show own_End p e below P (Tl.setTop (mkF m 11 #[.val (.int p0), .val (.int p_)] []))
        refine own_st (fun _ => Xl.ldc2Long hx hown (mvT hZ (hw _ (List.mem_of_getElem? (i := 12) rfl))) (g := (mkF m 11 #[.val (.int p0), .val (.int p_)] [])) rfl (hb hby own_dplaces_11) _) ?_
        show own_End p e below P (Tl.setTop (mkF m 14 #[.val (.int p0), .val (.int p_)] [(.long (4 : Int64))]))
        refine own_st (fun _ => XS.iloadN Xl.here hx rfl (hb hby own_dplaces_14) rfl) ?_
        show own_End p e below P (Tl.setTop (mkF m 15 #[.val (.int p0), .val (.int p_)] [(.int p0), (.long (4 : Int64))]))
        refine own_st (fun _ => XS.i2l Xl.here hx rfl (hb hby own_dplaces_15) rfl) ?_
        show own_End p e below P (Tl.setTop (mkF m 16 #[.val (.int p0), .val (.int p_)] [(.long (p0.toInt64)), (.long (4 : Int64))]))
        refine own_st (fun _ => XS.lmul Xl.here hx rfl (hb hby own_dplaces_16) rfl) ?_
        show own_End p e below P (Tl.setTop (mkF m 17 #[.val (.int p0), .val (.int p_)] [(.long ((4 : Int64) * (p0.toInt64)))]))
        refine own_st (fun _ => Xl.ldc2Long hx hown (mvT hZ (hw _ (List.mem_of_getElem? (i := 13) rfl))) (g := (mkF m 17 #[.val (.int p0), .val (.int p_)] [(.long ((4 : Int64) * (p0.toInt64)))])) rfl (hb hby own_dplaces_17) _) ?_
        show own_End p e below P (Tl.setTop (mkF m 20 #[.val (.int p0), .val (.int p_)] [(.long (3 : Int64)), (.long ((4 : Int64) * (p0.toInt64)))]))
        refine own_st (fun _ => XS.iloadN Xl.here hx rfl (hb hby own_dplaces_20) rfl) ?_
        show own_End p e below P (Tl.setTop (mkF m 21 #[.val (.int p0), .val (.int p_)] [(.int p_), (.long (3 : Int64)), (.long ((4 : Int64) * (p0.toInt64)))]))
        refine own_st (fun _ => XS.i2l Xl.here hx rfl (hb hby own_dplaces_21) rfl) ?_
        show own_End p e below P (Tl.setTop (mkF m 22 #[.val (.int p0), .val (.int p_)] [(.long (p_.toInt64)), (.long (3 : Int64)), (.long ((4 : Int64) * (p0.toInt64)))]))
        refine own_st (fun _ => XS.lmul Xl.here hx rfl (hb hby own_dplaces_22) rfl) ?_
        show own_End p e below P (Tl.setTop (mkF m 23 #[.val (.int p0), .val (.int p_)] [(.long ((3 : Int64) * (p_.toInt64))), (.long ((4 : Int64) * (p0.toInt64)))]))
        refine own_st (fun _ => XS.lcmp Xl.here hx rfl (hb hby own_dplaces_23) rfl) ?_
        show own_End p e below P (Tl.setTop (mkF m 24 #[.val (.int p0), .val (.int p_)] [(.int (lcmpW ((4 : Int64) * (p0.toInt64)) ((3 : Int64) * (p_.toInt64))))]))
        have hd4 : ¬ (((3 : Int64) * (p_.toInt64)) < ((4 : Int64) * (p0.toInt64))) := by exact own_Iv_zero hI
        refine own_st (fun _ => XS.ifYes Xl.here hx rfl (pc0 := 24) (pc' := 36) rfl (hb hby own_dplaces_24) rfl ((if0 _ _).trans (flt (mt own_gt.mp hd4)).2.2.2) (by decide) (by decide)) ?_
        show own_End p e below P (Tl.setTop (mkF m 36 #[.val (.int p0), .val (.int p_)] []))
        refine own_st (fun _ => XS.iloadN Xl.here hx rfl (hb hby own_dplaces_36) rfl) ?_
        show own_End p e below P (Tl.setTop (mkF m 37 #[.val (.int p0), .val (.int p_)] [(.int p_)]))
        refine own_retI Xl hx hlk hP hrt (hb hby own_dplaces_37) (by decide) (by decide) ?_
        exact ⟨congrArg (fun z => some (Value.int z)) (show p_ = own_plc p0 from hR), Nl, el⟩
      | succ k ih =>
        intro p_ Tl Ll Xl el Nl hI hR
        have hbd := own_Iv_bound hI hm
        show own_End p e below P (Tl.setTop (mkF m 11 #[.val (.int p0), .val (.int p_)] []))
        refine own_st (fun _ => Xl.ldc2Long hx hown (mvT hZ (hw _ (List.mem_of_getElem? (i := 12) rfl))) (g := (mkF m 11 #[.val (.int p0), .val (.int p_)] [])) rfl (hb hby own_dplaces_11) _) ?_
        show own_End p e below P (Tl.setTop (mkF m 14 #[.val (.int p0), .val (.int p_)] [(.long (4 : Int64))]))
        refine own_st (fun _ => XS.iloadN Xl.here hx rfl (hb hby own_dplaces_14) rfl) ?_
        show own_End p e below P (Tl.setTop (mkF m 15 #[.val (.int p0), .val (.int p_)] [(.int p0), (.long (4 : Int64))]))
        refine own_st (fun _ => XS.i2l Xl.here hx rfl (hb hby own_dplaces_15) rfl) ?_
        show own_End p e below P (Tl.setTop (mkF m 16 #[.val (.int p0), .val (.int p_)] [(.long (p0.toInt64)), (.long (4 : Int64))]))
        refine own_st (fun _ => XS.lmul Xl.here hx rfl (hb hby own_dplaces_16) rfl) ?_
        show own_End p e below P (Tl.setTop (mkF m 17 #[.val (.int p0), .val (.int p_)] [(.long ((4 : Int64) * (p0.toInt64)))]))
        refine own_st (fun _ => Xl.ldc2Long hx hown (mvT hZ (hw _ (List.mem_of_getElem? (i := 13) rfl))) (g := (mkF m 17 #[.val (.int p0), .val (.int p_)] [(.long ((4 : Int64) * (p0.toInt64)))])) rfl (hb hby own_dplaces_17) _) ?_
        show own_End p e below P (Tl.setTop (mkF m 20 #[.val (.int p0), .val (.int p_)] [(.long (3 : Int64)), (.long ((4 : Int64) * (p0.toInt64)))]))
        refine own_st (fun _ => XS.iloadN Xl.here hx rfl (hb hby own_dplaces_20) rfl) ?_
        show own_End p e below P (Tl.setTop (mkF m 21 #[.val (.int p0), .val (.int p_)] [(.int p_), (.long (3 : Int64)), (.long ((4 : Int64) * (p0.toInt64)))]))
        refine own_st (fun _ => XS.i2l Xl.here hx rfl (hb hby own_dplaces_21) rfl) ?_
        show own_End p e below P (Tl.setTop (mkF m 22 #[.val (.int p0), .val (.int p_)] [(.long (p_.toInt64)), (.long (3 : Int64)), (.long ((4 : Int64) * (p0.toInt64)))]))
        refine own_st (fun _ => XS.lmul Xl.here hx rfl (hb hby own_dplaces_22) rfl) ?_
        show own_End p e below P (Tl.setTop (mkF m 23 #[.val (.int p0), .val (.int p_)] [(.long ((3 : Int64) * (p_.toInt64))), (.long ((4 : Int64) * (p0.toInt64)))]))
        refine own_st (fun _ => XS.lcmp Xl.here hx rfl (hb hby own_dplaces_23) rfl) ?_
        show own_End p e below P (Tl.setTop (mkF m 24 #[.val (.int p0), .val (.int p_)] [(.int (lcmpW ((4 : Int64) * (p0.toInt64)) ((3 : Int64) * (p_.toInt64))))]))
        by_cases hc5 : ((3 : Int64) * (p_.toInt64)) < ((4 : Int64) * (p0.toInt64))
        · refine own_st (fun _ => XS.ifNo Xl.here hx rfl (hb hby own_dplaces_24) rfl ((if0 _ _).trans (tlt (own_gt.mpr hc5)).2.2.2)) ?_
          show own_End p e below P (Tl.setTop (mkF m 27 #[.val (.int p0), .val (.int p_)] []))
          refine own_st (fun _ => XS.iconst Xl.here hx rfl (hb hby own_dplaces_27)) ?_
          show own_End p e below P (Tl.setTop (mkF m 28 #[.val (.int p0), .val (.int p_)] [(.int (2 : Int32))]))
          refine own_st (fun _ => XS.iloadN Xl.here hx rfl (hb hby own_dplaces_28) rfl) ?_
          show own_End p e below P (Tl.setTop (mkF m 29 #[.val (.int p0), .val (.int p_)] [(.int p_), (.int (2 : Int32))]))
          refine own_callS Xl hx hZ (y := (⟨"java/lang/Math", "multiplyExact", "(II)I"⟩ : MethodName)) hown (hw _ (List.mem_of_getElem? (i := 54) rfl)) (hw _ (List.mem_of_getElem? (i := 55) rfl)) (hw _ (List.mem_of_getElem? (i := 51) rfl)) (hw _ (List.mem_of_getElem? (i := 56) rfl)) (by decide) (own_mmulx l Z a0 hw [] p_  h0 n0 (Nat.le_trans Z0 K0.1) hbd) 0 (by decide) (by decide) el (by decide) (by decide) (g := (mkF m 29 #[.val (.int p0), .val (.int p_)] [(.int p_), (.int (2 : Int32))])) rfl (by rw [hml']; rfl) (argsL := [(.int (2 : Int32)), (.int p_)]) (rest := []) rfl (lenOf own_pd_II_I_300 rfl) rfl (by show 2 * 0 + _ ≤ _; exact Nat.le_of_eq rfl) (hb hby own_dplaces_29) (fun r6 T6 L6 X6 hQ6 => ?_)
          obtain ⟨rfl, Nq6, eq6⟩ := hQ6
          have N6 := Fr.app Nl Nq6
          show own_End p e below P (T6.setTop (mkF m 32 #[.val (.int p0), .val (.int p_)] [(.int (own_fmulx p_))]))
          refine own_st (fun _ => XS.istoreN X6.here hx rfl (hb hby own_dplaces_32) rfl (l' := #[.val (.int p0), .val (.int (own_fmulx p_))]) rfl) ?_
          show own_End p e below P (T6.setTop (mkF m 33 #[.val (.int p0), .val (.int (own_fmulx p_))] []))
          refine own_st (fun _ => XS.goto X6.here hx rfl (pc0 := 33) (pc' := 11) rfl (hb hby own_dplaces_33) (by decide) (by decide)) ?_
          show own_End p e below P (T6.setTop (mkF m 11 #[.val (.int p0), .val (.int (own_fmulx p_))] []))
          exact ih _ _ _ X6 eq6 N6 (own_Iv_step hI hm hc5) ((own_pl_t hc5).symm.trans hR)
        · refine own_st (fun _ => XS.ifYes Xl.here hx rfl (pc0 := 24) (pc' := 36) rfl (hb hby own_dplaces_24) rfl ((if0 _ _).trans (flt (mt own_gt.mp hc5)).2.2.2) (by decide) (by decide)) ?_
          show own_End p e below P (Tl.setTop (mkF m 36 #[.val (.int p0), .val (.int p_)] []))
          refine own_st (fun _ => XS.iloadN Xl.here hx rfl (hb hby own_dplaces_36) rfl) ?_
          show own_End p e below P (Tl.setTop (mkF m 37 #[.val (.int p0), .val (.int p_)] [(.int p_)]))
          refine own_retI Xl hx hlk hP hrt (hb hby own_dplaces_37) (by decide) (by decide) ?_
          exact ⟨congrArg (fun z => some (Value.int z)) (show p_ = own_plc p0 from (own_pl_f hc5).symm.trans hR), Nl, el⟩
    exact loop 12 v2 _ _ X0 e0 N0 (own_Iv_start e_v2) (by rw [e_v2]; rfl)
  by_cases hc1 : p0 = (0 : Int32)
  · refine own_st (fun _ => XS.ifNo X0.here hx rfl (hb hby own_dplaces_1) rfl ((if0 _ _).trans (teq hc1).2)) ?_
    show own_End p e below P (s₁.setTop (mkF m 4 #[.val (.int p0), .unset] []))
    refine own_st (fun _ => XS.iconst X0.here hx rfl (hb hby own_dplaces_4)) ?_
    show own_End p e below P (s₁.setTop (mkF m 5 #[.val (.int p0), .unset] [(.int (0 : Int32))]))
    refine own_st (fun _ => XS.goto X0.here hx rfl (pc0 := 5) (pc' := 10) rfl (hb hby own_dplaces_5) (by decide) (by decide)) ?_
    show own_End p e below P (s₁.setTop (mkF m 10 #[.val (.int p0), .unset] [(.int (0 : Int32))]))
    exact J3 _ ((if_pos hc1).trans (rfl)).symm
  · refine own_st (fun _ => XS.ifYes X0.here hx rfl (pc0 := 1) (pc' := 8) rfl (hb hby own_dplaces_1) rfl ((if0 _ _).trans (feq hc1).2) (by decide) (by decide)) ?_
    show own_End p e below P (s₁.setTop (mkF m 8 #[.val (.int p0), .unset] []))
    refine own_st (fun _ => XS.bipush X0.here hx rfl (hb hby own_dplaces_8)) ?_
    show own_End p e below P (s₁.setTop (mkF m 10 #[.val (.int p0), .unset] [(.int (16 : Int32))]))
    exact J3 _ ((if_neg hc1).trans (rfl)).symm
theorem own_dexp_0 : decode method_3_code 0 = .ok (.iload_n 0, 1) := by decide +kernel
theorem own_dexp_1 : decode method_3_code 1 = .ok (.ifCond .ne 5, 3) := by decide +kernel
theorem own_dexp_4 : decode method_3_code 4 = .ok (.lconst 0, 1) := by decide +kernel
theorem own_dexp_5 : decode method_3_code 5 = .ok (.lreturn, 1) := by decide +kernel
theorem own_dexp_6 : decode method_3_code 6 = .ok (.iconst 4, 1) := by decide +kernel
theorem own_dexp_7 : decode method_3_code 7 = .ok (.iload_n 0, 1) := by decide +kernel
theorem own_dexp_8 : decode method_3_code 8 = .ok (.imul, 1) := by decide +kernel
theorem own_dexp_9 : decode method_3_code 9 = .ok (.iconst 2, 1) := by decide +kernel
theorem own_dexp_10 : decode method_3_code 10 = .ok (.iadd, 1) := by decide +kernel
theorem own_dexp_11 : decode method_3_code 11 = .ok (.iconst 3, 1) := by decide +kernel
theorem own_dexp_12 : decode method_3_code 12 = .ok (.idiv, 1) := by decide +kernel
theorem own_dexp_13 : decode method_3_code 13 = .ok (.istore_n 1, 1) := by decide +kernel
theorem own_dexp_14 : decode method_3_code 14 = .ok (.iload_n 1, 1) := by decide +kernel
theorem own_dexp_15 : decode method_3_code 15 = .ok (.iconst 1, 1) := by decide +kernel
theorem own_dexp_16 : decode method_3_code 16 = .ok (.isub, 1) := by decide +kernel
theorem own_dexp_17 : decode method_3_code 17 = .ok (.istore_n 2, 1) := by decide +kernel
theorem own_dexp_18 : decode method_3_code 18 = .ok (.iload_n 2, 1) := by decide +kernel
theorem own_dexp_19 : decode method_3_code 19 = .ok (.iload_n 2, 1) := by decide +kernel
theorem own_dexp_20 : decode method_3_code 20 = .ok (.iconst 1, 1) := by decide +kernel
theorem own_dexp_21 : decode method_3_code 21 = .ok (.ishr, 1) := by decide +kernel
theorem own_dexp_22 : decode method_3_code 22 = .ok (.ior, 1) := by decide +kernel
theorem own_dexp_23 : decode method_3_code 23 = .ok (.istore_n 2, 1) := by decide +kernel
theorem own_dexp_24 : decode method_3_code 24 = .ok (.iload_n 2, 1) := by decide +kernel
theorem own_dexp_25 : decode method_3_code 25 = .ok (.iload_n 2, 1) := by decide +kernel
theorem own_dexp_26 : decode method_3_code 26 = .ok (.iconst 2, 1) := by decide +kernel
theorem own_dexp_27 : decode method_3_code 27 = .ok (.ishr, 1) := by decide +kernel
theorem own_dexp_28 : decode method_3_code 28 = .ok (.ior, 1) := by decide +kernel
theorem own_dexp_29 : decode method_3_code 29 = .ok (.istore_n 2, 1) := by decide +kernel
theorem own_dexp_30 : decode method_3_code 30 = .ok (.iload_n 2, 1) := by decide +kernel
theorem own_dexp_31 : decode method_3_code 31 = .ok (.iload_n 2, 1) := by decide +kernel
theorem own_dexp_32 : decode method_3_code 32 = .ok (.iconst 4, 1) := by decide +kernel
theorem own_dexp_33 : decode method_3_code 33 = .ok (.ishr, 1) := by decide +kernel
theorem own_dexp_34 : decode method_3_code 34 = .ok (.ior, 1) := by decide +kernel
theorem own_dexp_35 : decode method_3_code 35 = .ok (.istore_n 2, 1) := by decide +kernel
theorem own_dexp_36 : decode method_3_code 36 = .ok (.iload_n 2, 1) := by decide +kernel
theorem own_dexp_37 : decode method_3_code 37 = .ok (.iload_n 2, 1) := by decide +kernel
theorem own_dexp_38 : decode method_3_code 38 = .ok (.bipush 8, 2) := by decide +kernel
theorem own_dexp_40 : decode method_3_code 40 = .ok (.ishr, 1) := by decide +kernel
theorem own_dexp_41 : decode method_3_code 41 = .ok (.ior, 1) := by decide +kernel
theorem own_dexp_42 : decode method_3_code 42 = .ok (.istore_n 2, 1) := by decide +kernel
theorem own_dexp_43 : decode method_3_code 43 = .ok (.iload_n 2, 1) := by decide +kernel
theorem own_dexp_44 : decode method_3_code 44 = .ok (.iload_n 2, 1) := by decide +kernel
theorem own_dexp_45 : decode method_3_code 45 = .ok (.bipush 16, 2) := by decide +kernel
theorem own_dexp_47 : decode method_3_code 47 = .ok (.ishr, 1) := by decide +kernel
theorem own_dexp_48 : decode method_3_code 48 = .ok (.ior, 1) := by decide +kernel
theorem own_dexp_49 : decode method_3_code 49 = .ok (.istore_n 2, 1) := by decide +kernel
theorem own_dexp_50 : decode method_3_code 50 = .ok (.iload_n 2, 1) := by decide +kernel
theorem own_dexp_51 : decode method_3_code 51 = .ok (.iconst 1, 1) := by decide +kernel
theorem own_dexp_52 : decode method_3_code 52 = .ok (.iadd, 1) := by decide +kernel
theorem own_dexp_53 : decode method_3_code 53 = .ok (.bipush 16, 2) := by decide +kernel
theorem own_dexp_55 : decode method_3_code 55 = .ok (.invokestatic 16, 3) := by decide +kernel
theorem own_dexp_58 : decode method_3_code 58 = .ok (.istore_n 3, 1) := by decide +kernel
theorem own_dexp_59 : decode method_3_code 59 = .ok (.ldc2_w 32, 3) := by decide +kernel
theorem own_dexp_62 : decode method_3_code 62 = .ok (.iload_n 3, 1) := by decide +kernel
theorem own_dexp_63 : decode method_3_code 63 = .ok (.i2l, 1) := by decide +kernel
theorem own_dexp_64 : decode method_3_code 64 = .ok (.lmul, 1) := by decide +kernel
theorem own_dexp_65 : decode method_3_code 65 = .ok (.lreturn, 1) := by decide +kernel
theorem own_efexp (m : MethodId) (p0 : Int32) : entryFrame m #[(.int p0)] 4 = mkF m 0 #[.val (.int p0), .unset, .unset, .unset] [] := by first | (simp [entryFrame, mkF, argsToLocals, Value.category]; done) | rfl
def own_fexp (p0 : Int32) : Int64 := (if p0 = (0 : Int32) then (0 : Int64) else ((16 : Int64) * ((own_fmax (((((((((((4 : Int32) * p0) + (2 : Int32)) / (3 : Int32)) - (1 : Int32)) ||| ((((((4 : Int32) * p0) + (2 : Int32)) / (3 : Int32)) - (1 : Int32)) >>> ((1 : Int32) &&& 31))) ||| (((((((4 : Int32) * p0) + (2 : Int32)) / (3 : Int32)) - (1 : Int32)) ||| ((((((4 : Int32) * p0) + (2 : Int32)) / (3 : Int32)) - (1 : Int32)) >>> ((1 : Int32) &&& 31))) >>> ((2 : Int32) &&& 31))) ||| ((((((((4 : Int32) * p0) + (2 : Int32)) / (3 : Int32)) - (1 : Int32)) ||| ((((((4 : Int32) * p0) + (2 : Int32)) / (3 : Int32)) - (1 : Int32)) >>> ((1 : Int32) &&& 31))) ||| (((((((4 : Int32) * p0) + (2 : Int32)) / (3 : Int32)) - (1 : Int32)) ||| ((((((4 : Int32) * p0) + (2 : Int32)) / (3 : Int32)) - (1 : Int32)) >>> ((1 : Int32) &&& 31))) >>> ((2 : Int32) &&& 31))) >>> ((4 : Int32) &&& 31))) ||| (((((((((4 : Int32) * p0) + (2 : Int32)) / (3 : Int32)) - (1 : Int32)) ||| ((((((4 : Int32) * p0) + (2 : Int32)) / (3 : Int32)) - (1 : Int32)) >>> ((1 : Int32) &&& 31))) ||| (((((((4 : Int32) * p0) + (2 : Int32)) / (3 : Int32)) - (1 : Int32)) ||| ((((((4 : Int32) * p0) + (2 : Int32)) / (3 : Int32)) - (1 : Int32)) >>> ((1 : Int32) &&& 31))) >>> ((2 : Int32) &&& 31))) ||| ((((((((4 : Int32) * p0) + (2 : Int32)) / (3 : Int32)) - (1 : Int32)) ||| ((((((4 : Int32) * p0) + (2 : Int32)) / (3 : Int32)) - (1 : Int32)) >>> ((1 : Int32) &&& 31))) ||| (((((((4 : Int32) * p0) + (2 : Int32)) / (3 : Int32)) - (1 : Int32)) ||| ((((((4 : Int32) * p0) + (2 : Int32)) / (3 : Int32)) - (1 : Int32)) >>> ((1 : Int32) &&& 31))) >>> ((2 : Int32) &&& 31))) >>> ((4 : Int32) &&& 31))) >>> ((8 : Int32) &&& 31))) ||| ((((((((((4 : Int32) * p0) + (2 : Int32)) / (3 : Int32)) - (1 : Int32)) ||| ((((((4 : Int32) * p0) + (2 : Int32)) / (3 : Int32)) - (1 : Int32)) >>> ((1 : Int32) &&& 31))) ||| (((((((4 : Int32) * p0) + (2 : Int32)) / (3 : Int32)) - (1 : Int32)) ||| ((((((4 : Int32) * p0) + (2 : Int32)) / (3 : Int32)) - (1 : Int32)) >>> ((1 : Int32) &&& 31))) >>> ((2 : Int32) &&& 31))) ||| ((((((((4 : Int32) * p0) + (2 : Int32)) / (3 : Int32)) - (1 : Int32)) ||| ((((((4 : Int32) * p0) + (2 : Int32)) / (3 : Int32)) - (1 : Int32)) >>> ((1 : Int32) &&& 31))) ||| (((((((4 : Int32) * p0) + (2 : Int32)) / (3 : Int32)) - (1 : Int32)) ||| ((((((4 : Int32) * p0) + (2 : Int32)) / (3 : Int32)) - (1 : Int32)) >>> ((1 : Int32) &&& 31))) >>> ((2 : Int32) &&& 31))) >>> ((4 : Int32) &&& 31))) ||| (((((((((4 : Int32) * p0) + (2 : Int32)) / (3 : Int32)) - (1 : Int32)) ||| ((((((4 : Int32) * p0) + (2 : Int32)) / (3 : Int32)) - (1 : Int32)) >>> ((1 : Int32) &&& 31))) ||| (((((((4 : Int32) * p0) + (2 : Int32)) / (3 : Int32)) - (1 : Int32)) ||| ((((((4 : Int32) * p0) + (2 : Int32)) / (3 : Int32)) - (1 : Int32)) >>> ((1 : Int32) &&& 31))) >>> ((2 : Int32) &&& 31))) ||| ((((((((4 : Int32) * p0) + (2 : Int32)) / (3 : Int32)) - (1 : Int32)) ||| ((((((4 : Int32) * p0) + (2 : Int32)) / (3 : Int32)) - (1 : Int32)) >>> ((1 : Int32) &&& 31))) ||| (((((((4 : Int32) * p0) + (2 : Int32)) / (3 : Int32)) - (1 : Int32)) ||| ((((((4 : Int32) * p0) + (2 : Int32)) / (3 : Int32)) - (1 : Int32)) >>> ((1 : Int32) &&& 31))) >>> ((2 : Int32) &&& 31))) >>> ((4 : Int32) &&& 31))) >>> ((8 : Int32) &&& 31))) >>> ((16 : Int32) &&& 31))) + (1 : Int32)) (16 : Int32)).toInt64)))
theorem own_pn_com_example_defnot_defnot_CuckooStashBytesPinLaw : plainName "com/example/defnot/defnot/CuckooStashBytesPinLaw" = true := by first | (simp [plainName, overriddenIn]; done) | decide +kernel
set_option maxRecDepth 65536 in
set_option maxHeartbeats 40000000 in
theorem own_mexp (l : Launch) (Z : State) (a0 : Array Value) (hw : ∀ d ∈ tables_1, d.before a0 Z = true) (ws : List Jvm.Cond) (p0 : Int32)  (h0 : Heap) (n0 : Nat) (Z0 : n0 ≤ h0.size)  :
    own_Met l Z (⟨"com/example/defnot/defnot/CuckooStashBytesPinLaw", "expected", "(I)J"⟩ : MethodName) method_3_code 4 (some .long) ws ({ frames := 1, cells := 0, slots := 0, locals := 13 } : Room) #[(.int p0)] h0 (fun (v : Option Value) (h : Heap) (L : List Loc) => v = some (.long (own_fexp p0)) ∧ Fr n0 L ∧ h = h0) := by
  refine own_enter (plainFor_of_name own_pn_com_example_defnot_defnot_CuckooStashBytesPinLaw) ?_
  intro p e s m below meth c s₁ P hx hby hml hrt hlk hown hnm hZ X0 e0 hP
  have N0 := Fr.nil n0
  have K0 := Keep.refl h0 []
  have hml' : c.maxLocals = 4 := hml
  refine own_cast (own_efexp m p0) ?_
  show own_End p e below P (s₁.setTop (mkF m 0 #[.val (.int p0), .unset, .unset, .unset] []))
  refine own_st (fun _ => XS.iloadN X0.here hx rfl (hb hby own_dexp_0) rfl) ?_
  show own_End p e below P (s₁.setTop (mkF m 1 #[.val (.int p0), .unset, .unset, .unset] [(.int p0)]))
  by_cases hc1 : p0 = (0 : Int32)
  · refine own_st (fun _ => XS.ifNo X0.here hx rfl (hb hby own_dexp_1) rfl ((if0 _ _).trans (teq hc1).2)) ?_
    show own_End p e below P (s₁.setTop (mkF m 4 #[.val (.int p0), .unset, .unset, .unset] []))
    refine own_st (fun _ => XS.lconst X0.here hx rfl (hb hby own_dexp_4)) ?_
    show own_End p e below P (s₁.setTop (mkF m 5 #[.val (.int p0), .unset, .unset, .unset] [(.long (0 : Int64))]))
    refine own_retL X0 hx hlk hP hrt (hb hby own_dexp_5) (by decide) (by decide) ⟨congrArg (fun z => some (Value.long z)) ?_, N0, e0⟩
    exact (show own_fexp p0 = (0 : Int64) from (if_pos hc1).trans (rfl)).symm
  · refine own_st (fun _ => XS.ifYes X0.here hx rfl (pc0 := 1) (pc' := 6) rfl (hb hby own_dexp_1) rfl ((if0 _ _).trans (feq hc1).2) (by decide) (by decide)) ?_
    show own_End p e below P (s₁.setTop (mkF m 6 #[.val (.int p0), .unset, .unset, .unset] []))
    refine own_st (fun _ => XS.iconst X0.here hx rfl (hb hby own_dexp_6)) ?_
    show own_End p e below P (s₁.setTop (mkF m 7 #[.val (.int p0), .unset, .unset, .unset] [(.int (4 : Int32))]))
    refine own_st (fun _ => XS.iloadN X0.here hx rfl (hb hby own_dexp_7) rfl) ?_
    show own_End p e below P (s₁.setTop (mkF m 8 #[.val (.int p0), .unset, .unset, .unset] [(.int p0), (.int (4 : Int32))]))
    refine own_st (fun _ => XS.imul X0.here hx rfl (hb hby own_dexp_8) rfl) ?_
    show own_End p e below P (s₁.setTop (mkF m 9 #[.val (.int p0), .unset, .unset, .unset] [(.int ((4 : Int32) * p0))]))
    refine own_st (fun _ => XS.iconst X0.here hx rfl (hb hby own_dexp_9)) ?_
    show own_End p e below P (s₁.setTop (mkF m 10 #[.val (.int p0), .unset, .unset, .unset] [(.int (2 : Int32)), (.int ((4 : Int32) * p0))]))
    refine own_st (fun _ => XS.iadd X0.here hx rfl (hb hby own_dexp_10) rfl) ?_
    show own_End p e below P (s₁.setTop (mkF m 11 #[.val (.int p0), .unset, .unset, .unset] [(.int (((4 : Int32) * p0) + (2 : Int32)))]))
    refine own_st (fun _ => XS.iconst X0.here hx rfl (hb hby own_dexp_11)) ?_
    show own_End p e below P (s₁.setTop (mkF m 12 #[.val (.int p0), .unset, .unset, .unset] [(.int (3 : Int32)), (.int (((4 : Int32) * p0) + (2 : Int32)))]))
    refine own_st (fun _ => XS.idiv X0.here hx rfl (hb hby own_dexp_12) rfl (by decide)) ?_
    show own_End p e below P (s₁.setTop (mkF m 13 #[.val (.int p0), .unset, .unset, .unset] [(.int ((((4 : Int32) * p0) + (2 : Int32)) / (3 : Int32)))]))
    refine own_st (fun _ => XS.istoreN X0.here hx rfl (hb hby own_dexp_13) rfl (l' := #[.val (.int p0), .val (.int ((((4 : Int32) * p0) + (2 : Int32)) / (3 : Int32))), .unset, .unset]) rfl) ?_
    show own_End p e below P (s₁.setTop (mkF m 14 #[.val (.int p0), .val (.int ((((4 : Int32) * p0) + (2 : Int32)) / (3 : Int32))), .unset, .unset] []))
    refine own_st (fun _ => XS.iloadN X0.here hx rfl (hb hby own_dexp_14) rfl) ?_
    show own_End p e below P (s₁.setTop (mkF m 15 #[.val (.int p0), .val (.int ((((4 : Int32) * p0) + (2 : Int32)) / (3 : Int32))), .unset, .unset] [(.int ((((4 : Int32) * p0) + (2 : Int32)) / (3 : Int32)))]))
    refine own_st (fun _ => XS.iconst X0.here hx rfl (hb hby own_dexp_15)) ?_
    show own_End p e below P (s₁.setTop (mkF m 16 #[.val (.int p0), .val (.int ((((4 : Int32) * p0) + (2 : Int32)) / (3 : Int32))), .unset, .unset] [(.int (1 : Int32)), (.int ((((4 : Int32) * p0) + (2 : Int32)) / (3 : Int32)))]))
    refine own_st (fun _ => XS.isub X0.here hx rfl (hb hby own_dexp_16) rfl) ?_
    show own_End p e below P (s₁.setTop (mkF m 17 #[.val (.int p0), .val (.int ((((4 : Int32) * p0) + (2 : Int32)) / (3 : Int32))), .unset, .unset] [(.int (((((4 : Int32) * p0) + (2 : Int32)) / (3 : Int32)) - (1 : Int32)))]))
    refine own_st (fun _ => XS.istoreN X0.here hx rfl (hb hby own_dexp_17) rfl (l' := #[.val (.int p0), .val (.int ((((4 : Int32) * p0) + (2 : Int32)) / (3 : Int32))), .val (.int (((((4 : Int32) * p0) + (2 : Int32)) / (3 : Int32)) - (1 : Int32))), .unset]) rfl) ?_
    show own_End p e below P (s₁.setTop (mkF m 18 #[.val (.int p0), .val (.int ((((4 : Int32) * p0) + (2 : Int32)) / (3 : Int32))), .val (.int (((((4 : Int32) * p0) + (2 : Int32)) / (3 : Int32)) - (1 : Int32))), .unset] []))
    refine own_st (fun _ => XS.iloadN X0.here hx rfl (hb hby own_dexp_18) rfl) ?_
    show own_End p e below P (s₁.setTop (mkF m 19 #[.val (.int p0), .val (.int ((((4 : Int32) * p0) + (2 : Int32)) / (3 : Int32))), .val (.int (((((4 : Int32) * p0) + (2 : Int32)) / (3 : Int32)) - (1 : Int32))), .unset] [(.int (((((4 : Int32) * p0) + (2 : Int32)) / (3 : Int32)) - (1 : Int32)))]))
    refine own_st (fun _ => XS.iloadN X0.here hx rfl (hb hby own_dexp_19) rfl) ?_
    show own_End p e below P (s₁.setTop (mkF m 20 #[.val (.int p0), .val (.int ((((4 : Int32) * p0) + (2 : Int32)) / (3 : Int32))), .val (.int (((((4 : Int32) * p0) + (2 : Int32)) / (3 : Int32)) - (1 : Int32))), .unset] [(.int (((((4 : Int32) * p0) + (2 : Int32)) / (3 : Int32)) - (1 : Int32))), (.int (((((4 : Int32) * p0) + (2 : Int32)) / (3 : Int32)) - (1 : Int32)))]))
    refine own_st (fun _ => XS.iconst X0.here hx rfl (hb hby own_dexp_20)) ?_
    show own_End p e below P (s₁.setTop (mkF m 21 #[.val (.int p0), .val (.int ((((4 : Int32) * p0) + (2 : Int32)) / (3 : Int32))), .val (.int (((((4 : Int32) * p0) + (2 : Int32)) / (3 : Int32)) - (1 : Int32))), .unset] [(.int (1 : Int32)), (.int (((((4 : Int32) * p0) + (2 : Int32)) / (3 : Int32)) - (1 : Int32))), (.int (((((4 : Int32) * p0) + (2 : Int32)) / (3 : Int32)) - (1 : Int32)))]))
    refine own_st (fun _ => XS.ishr X0.here hx rfl (hb hby own_dexp_21) rfl) ?_
    show own_End p e below P (s₁.setTop (mkF m 22 #[.val (.int p0), .val (.int ((((4 : Int32) * p0) + (2 : Int32)) / (3 : Int32))), .val (.int (((((4 : Int32) * p0) + (2 : Int32)) / (3 : Int32)) - (1 : Int32))), .unset] [(.int ((((((4 : Int32) * p0) + (2 : Int32)) / (3 : Int32)) - (1 : Int32)) >>> ((1 : Int32) &&& 31))), (.int (((((4 : Int32) * p0) + (2 : Int32)) / (3 : Int32)) - (1 : Int32)))]))
    refine own_st (fun _ => XS.ior X0.here hx rfl (hb hby own_dexp_22) rfl) ?_
    show own_End p e below P (s₁.setTop (mkF m 23 #[.val (.int p0), .val (.int ((((4 : Int32) * p0) + (2 : Int32)) / (3 : Int32))), .val (.int (((((4 : Int32) * p0) + (2 : Int32)) / (3 : Int32)) - (1 : Int32))), .unset] [(.int ((((((4 : Int32) * p0) + (2 : Int32)) / (3 : Int32)) - (1 : Int32)) ||| ((((((4 : Int32) * p0) + (2 : Int32)) / (3 : Int32)) - (1 : Int32)) >>> ((1 : Int32) &&& 31))))]))
    refine own_st (fun _ => XS.istoreN X0.here hx rfl (hb hby own_dexp_23) rfl (l' := #[.val (.int p0), .val (.int ((((4 : Int32) * p0) + (2 : Int32)) / (3 : Int32))), .val (.int ((((((4 : Int32) * p0) + (2 : Int32)) / (3 : Int32)) - (1 : Int32)) ||| ((((((4 : Int32) * p0) + (2 : Int32)) / (3 : Int32)) - (1 : Int32)) >>> ((1 : Int32) &&& 31)))), .unset]) rfl) ?_
    show own_End p e below P (s₁.setTop (mkF m 24 #[.val (.int p0), .val (.int ((((4 : Int32) * p0) + (2 : Int32)) / (3 : Int32))), .val (.int ((((((4 : Int32) * p0) + (2 : Int32)) / (3 : Int32)) - (1 : Int32)) ||| ((((((4 : Int32) * p0) + (2 : Int32)) / (3 : Int32)) - (1 : Int32)) >>> ((1 : Int32) &&& 31)))), .unset] []))
    refine own_st (fun _ => XS.iloadN X0.here hx rfl (hb hby own_dexp_24) rfl) ?_
    show own_End p e below P (s₁.setTop (mkF m 25 #[.val (.int p0), .val (.int ((((4 : Int32) * p0) + (2 : Int32)) / (3 : Int32))), .val (.int ((((((4 : Int32) * p0) + (2 : Int32)) / (3 : Int32)) - (1 : Int32)) ||| ((((((4 : Int32) * p0) + (2 : Int32)) / (3 : Int32)) - (1 : Int32)) >>> ((1 : Int32) &&& 31)))), .unset] [(.int ((((((4 : Int32) * p0) + (2 : Int32)) / (3 : Int32)) - (1 : Int32)) ||| ((((((4 : Int32) * p0) + (2 : Int32)) / (3 : Int32)) - (1 : Int32)) >>> ((1 : Int32) &&& 31))))]))
    refine own_st (fun _ => XS.iloadN X0.here hx rfl (hb hby own_dexp_25) rfl) ?_
    show own_End p e below P (s₁.setTop (mkF m 26 #[.val (.int p0), .val (.int ((((4 : Int32) * p0) + (2 : Int32)) / (3 : Int32))), .val (.int ((((((4 : Int32) * p0) + (2 : Int32)) / (3 : Int32)) - (1 : Int32)) ||| ((((((4 : Int32) * p0) + (2 : Int32)) / (3 : Int32)) - (1 : Int32)) >>> ((1 : Int32) &&& 31)))), .unset] [(.int ((((((4 : Int32) * p0) + (2 : Int32)) / (3 : Int32)) - (1 : Int32)) ||| ((((((4 : Int32) * p0) + (2 : Int32)) / (3 : Int32)) - (1 : Int32)) >>> ((1 : Int32) &&& 31)))), (.int ((((((4 : Int32) * p0) + (2 : Int32)) / (3 : Int32)) - (1 : Int32)) ||| ((((((4 : Int32) * p0) + (2 : Int32)) / (3 : Int32)) - (1 : Int32)) >>> ((1 : Int32) &&& 31))))]))
    refine own_st (fun _ => XS.iconst X0.here hx rfl (hb hby own_dexp_26)) ?_
    show own_End p e below P (s₁.setTop (mkF m 27 #[.val (.int p0), .val (.int ((((4 : Int32) * p0) + (2 : Int32)) / (3 : Int32))), .val (.int ((((((4 : Int32) * p0) + (2 : Int32)) / (3 : Int32)) - (1 : Int32)) ||| ((((((4 : Int32) * p0) + (2 : Int32)) / (3 : Int32)) - (1 : Int32)) >>> ((1 : Int32) &&& 31)))), .unset] [(.int (2 : Int32)), (.int ((((((4 : Int32) * p0) + (2 : Int32)) / (3 : Int32)) - (1 : Int32)) ||| ((((((4 : Int32) * p0) + (2 : Int32)) / (3 : Int32)) - (1 : Int32)) >>> ((1 : Int32) &&& 31)))), (.int ((((((4 : Int32) * p0) + (2 : Int32)) / (3 : Int32)) - (1 : Int32)) ||| ((((((4 : Int32) * p0) + (2 : Int32)) / (3 : Int32)) - (1 : Int32)) >>> ((1 : Int32) &&& 31))))]))
    refine own_st (fun _ => XS.ishr X0.here hx rfl (hb hby own_dexp_27) rfl) ?_
    show own_End p e below P (s₁.setTop (mkF m 28 #[.val (.int p0), .val (.int ((((4 : Int32) * p0) + (2 : Int32)) / (3 : Int32))), .val (.int ((((((4 : Int32) * p0) + (2 : Int32)) / (3 : Int32)) - (1 : Int32)) ||| ((((((4 : Int32) * p0) + (2 : Int32)) / (3 : Int32)) - (1 : Int32)) >>> ((1 : Int32) &&& 31)))), .unset] [(.int (((((((4 : Int32) * p0) + (2 : Int32)) / (3 : Int32)) - (1 : Int32)) ||| ((((((4 : Int32) * p0) + (2 : Int32)) / (3 : Int32)) - (1 : Int32)) >>> ((1 : Int32) &&& 31))) >>> ((2 : Int32) &&& 31))), (.int ((((((4 : Int32) * p0) + (2 : Int32)) / (3 : Int32)) - (1 : Int32)) ||| ((((((4 : Int32) * p0) + (2 : Int32)) / (3 : Int32)) - (1 : Int32)) >>> ((1 : Int32) &&& 31))))]))
    refine own_st (fun _ => XS.ior X0.here hx rfl (hb hby own_dexp_28) rfl) ?_
    show own_End p e below P (s₁.setTop (mkF m 29 #[.val (.int p0), .val (.int ((((4 : Int32) * p0) + (2 : Int32)) / (3 : Int32))), .val (.int ((((((4 : Int32) * p0) + (2 : Int32)) / (3 : Int32)) - (1 : Int32)) ||| ((((((4 : Int32) * p0) + (2 : Int32)) / (3 : Int32)) - (1 : Int32)) >>> ((1 : Int32) &&& 31)))), .unset] [(.int (((((((4 : Int32) * p0) + (2 : Int32)) / (3 : Int32)) - (1 : Int32)) ||| ((((((4 : Int32) * p0) + (2 : Int32)) / (3 : Int32)) - (1 : Int32)) >>> ((1 : Int32) &&& 31))) ||| (((((((4 : Int32) * p0) + (2 : Int32)) / (3 : Int32)) - (1 : Int32)) ||| ((((((4 : Int32) * p0) + (2 : Int32)) / (3 : Int32)) - (1 : Int32)) >>> ((1 : Int32) &&& 31))) >>> ((2 : Int32) &&& 31))))]))
    refine own_st (fun _ => XS.istoreN X0.here hx rfl (hb hby own_dexp_29) rfl (l' := #[.val (.int p0), .val (.int ((((4 : Int32) * p0) + (2 : Int32)) / (3 : Int32))), .val (.int (((((((4 : Int32) * p0) + (2 : Int32)) / (3 : Int32)) - (1 : Int32)) ||| ((((((4 : Int32) * p0) + (2 : Int32)) / (3 : Int32)) - (1 : Int32)) >>> ((1 : Int32) &&& 31))) ||| (((((((4 : Int32) * p0) + (2 : Int32)) / (3 : Int32)) - (1 : Int32)) ||| ((((((4 : Int32) * p0) + (2 : Int32)) / (3 : Int32)) - (1 : Int32)) >>> ((1 : Int32) &&& 31))) >>> ((2 : Int32) &&& 31)))), .unset]) rfl) ?_
    show own_End p e below P (s₁.setTop (mkF m 30 #[.val (.int p0), .val (.int ((((4 : Int32) * p0) + (2 : Int32)) / (3 : Int32))), .val (.int (((((((4 : Int32) * p0) + (2 : Int32)) / (3 : Int32)) - (1 : Int32)) ||| ((((((4 : Int32) * p0) + (2 : Int32)) / (3 : Int32)) - (1 : Int32)) >>> ((1 : Int32) &&& 31))) ||| (((((((4 : Int32) * p0) + (2 : Int32)) / (3 : Int32)) - (1 : Int32)) ||| ((((((4 : Int32) * p0) + (2 : Int32)) / (3 : Int32)) - (1 : Int32)) >>> ((1 : Int32) &&& 31))) >>> ((2 : Int32) &&& 31)))), .unset] []))
    refine own_st (fun _ => XS.iloadN X0.here hx rfl (hb hby own_dexp_30) rfl) ?_
    show own_End p e below P (s₁.setTop (mkF m 31 #[.val (.int p0), .val (.int ((((4 : Int32) * p0) + (2 : Int32)) / (3 : Int32))), .val (.int (((((((4 : Int32) * p0) + (2 : Int32)) / (3 : Int32)) - (1 : Int32)) ||| ((((((4 : Int32) * p0) + (2 : Int32)) / (3 : Int32)) - (1 : Int32)) >>> ((1 : Int32) &&& 31))) ||| (((((((4 : Int32) * p0) + (2 : Int32)) / (3 : Int32)) - (1 : Int32)) ||| ((((((4 : Int32) * p0) + (2 : Int32)) / (3 : Int32)) - (1 : Int32)) >>> ((1 : Int32) &&& 31))) >>> ((2 : Int32) &&& 31)))), .unset] [(.int (((((((4 : Int32) * p0) + (2 : Int32)) / (3 : Int32)) - (1 : Int32)) ||| ((((((4 : Int32) * p0) + (2 : Int32)) / (3 : Int32)) - (1 : Int32)) >>> ((1 : Int32) &&& 31))) ||| (((((((4 : Int32) * p0) + (2 : Int32)) / (3 : Int32)) - (1 : Int32)) ||| ((((((4 : Int32) * p0) + (2 : Int32)) / (3 : Int32)) - (1 : Int32)) >>> ((1 : Int32) &&& 31))) >>> ((2 : Int32) &&& 31))))]))
    refine own_st (fun _ => XS.iloadN X0.here hx rfl (hb hby own_dexp_31) rfl) ?_
    show own_End p e below P (s₁.setTop (mkF m 32 #[.val (.int p0), .val (.int ((((4 : Int32) * p0) + (2 : Int32)) / (3 : Int32))), .val (.int (((((((4 : Int32) * p0) + (2 : Int32)) / (3 : Int32)) - (1 : Int32)) ||| ((((((4 : Int32) * p0) + (2 : Int32)) / (3 : Int32)) - (1 : Int32)) >>> ((1 : Int32) &&& 31))) ||| (((((((4 : Int32) * p0) + (2 : Int32)) / (3 : Int32)) - (1 : Int32)) ||| ((((((4 : Int32) * p0) + (2 : Int32)) / (3 : Int32)) - (1 : Int32)) >>> ((1 : Int32) &&& 31))) >>> ((2 : Int32) &&& 31)))), .unset] [(.int (((((((4 : Int32) * p0) + (2 : Int32)) / (3 : Int32)) - (1 : Int32)) ||| ((((((4 : Int32) * p0) + (2 : Int32)) / (3 : Int32)) - (1 : Int32)) >>> ((1 : Int32) &&& 31))) ||| (((((((4 : Int32) * p0) + (2 : Int32)) / (3 : Int32)) - (1 : Int32)) ||| ((((((4 : Int32) * p0) + (2 : Int32)) / (3 : Int32)) - (1 : Int32)) >>> ((1 : Int32) &&& 31))) >>> ((2 : Int32) &&& 31)))), (.int (((((((4 : Int32) * p0) + (2 : Int32)) / (3 : Int32)) - (1 : Int32)) ||| ((((((4 : Int32) * p0) + (2 : Int32)) / (3 : Int32)) - (1 : Int32)) >>> ((1 : Int32) &&& 31))) ||| (((((((4 : Int32) * p0) + (2 : Int32)) / (3 : Int32)) - (1 : Int32)) ||| ((((((4 : Int32) * p0) + (2 : Int32)) / (3 : Int32)) - (1 : Int32)) >>> ((1 : Int32) &&& 31))) >>> ((2 : Int32) &&& 31))))]))
    refine own_st (fun _ => XS.iconst X0.here hx rfl (hb hby own_dexp_32)) ?_
    show own_End p e below P (s₁.setTop (mkF m 33 #[.val (.int p0), .val (.int ((((4 : Int32) * p0) + (2 : Int32)) / (3 : Int32))), .val (.int (((((((4 : Int32) * p0) + (2 : Int32)) / (3 : Int32)) - (1 : Int32)) ||| ((((((4 : Int32) * p0) + (2 : Int32)) / (3 : Int32)) - (1 : Int32)) >>> ((1 : Int32) &&& 31))) ||| (((((((4 : Int32) * p0) + (2 : Int32)) / (3 : Int32)) - (1 : Int32)) ||| ((((((4 : Int32) * p0) + (2 : Int32)) / (3 : Int32)) - (1 : Int32)) >>> ((1 : Int32) &&& 31))) >>> ((2 : Int32) &&& 31)))), .unset] [(.int (4 : Int32)), (.int (((((((4 : Int32) * p0) + (2 : Int32)) / (3 : Int32)) - (1 : Int32)) ||| ((((((4 : Int32) * p0) + (2 : Int32)) / (3 : Int32)) - (1 : Int32)) >>> ((1 : Int32) &&& 31))) ||| (((((((4 : Int32) * p0) + (2 : Int32)) / (3 : Int32)) - (1 : Int32)) ||| ((((((4 : Int32) * p0) + (2 : Int32)) / (3 : Int32)) - (1 : Int32)) >>> ((1 : Int32) &&& 31))) >>> ((2 : Int32) &&& 31)))), (.int (((((((4 : Int32) * p0) + (2 : Int32)) / (3 : Int32)) - (1 : Int32)) ||| ((((((4 : Int32) * p0) + (2 : Int32)) / (3 : Int32)) - (1 : Int32)) >>> ((1 : Int32) &&& 31))) ||| (((((((4 : Int32) * p0) + (2 : Int32)) / (3 : Int32)) - (1 : Int32)) ||| ((((((4 : Int32) * p0) + (2 : Int32)) / (3 : Int32)) - (1 : Int32)) >>> ((1 : Int32) &&& 31))) >>> ((2 : Int32) &&& 31))))]))
    refine own_st (fun _ => XS.ishr X0.here hx rfl (hb hby own_dexp_33) rfl) ?_
    show own_End p e below P (s₁.setTop (mkF m 34 #[.val (.int p0), .val (.int ((((4 : Int32) * p0) + (2 : Int32)) / (3 : Int32))), .val (.int (((((((4 : Int32) * p0) + (2 : Int32)) / (3 : Int32)) - (1 : Int32)) ||| ((((((4 : Int32) * p0) + (2 : Int32)) / (3 : Int32)) - (1 : Int32)) >>> ((1 : Int32) &&& 31))) ||| (((((((4 : Int32) * p0) + (2 : Int32)) / (3 : Int32)) - (1 : Int32)) ||| ((((((4 : Int32) * p0) + (2 : Int32)) / (3 : Int32)) - (1 : Int32)) >>> ((1 : Int32) &&& 31))) >>> ((2 : Int32) &&& 31)))), .unset] [(.int ((((((((4 : Int32) * p0) + (2 : Int32)) / (3 : Int32)) - (1 : Int32)) ||| ((((((4 : Int32) * p0) + (2 : Int32)) / (3 : Int32)) - (1 : Int32)) >>> ((1 : Int32) &&& 31))) ||| (((((((4 : Int32) * p0) + (2 : Int32)) / (3 : Int32)) - (1 : Int32)) ||| ((((((4 : Int32) * p0) + (2 : Int32)) / (3 : Int32)) - (1 : Int32)) >>> ((1 : Int32) &&& 31))) >>> ((2 : Int32) &&& 31))) >>> ((4 : Int32) &&& 31))), (.int (((((((4 : Int32) * p0) + (2 : Int32)) / (3 : Int32)) - (1 : Int32)) ||| ((((((4 : Int32) * p0) + (2 : Int32)) / (3 : Int32)) - (1 : Int32)) >>> ((1 : Int32) &&& 31))) ||| (((((((4 : Int32) * p0) + (2 : Int32)) / (3 : Int32)) - (1 : Int32)) ||| ((((((4 : Int32) * p0) + (2 : Int32)) / (3 : Int32)) - (1 : Int32)) >>> ((1 : Int32) &&& 31))) >>> ((2 : Int32) &&& 31))))]))
    refine own_st (fun _ => XS.ior X0.here hx rfl (hb hby own_dexp_34) rfl) ?_
    show own_End p e below P (s₁.setTop (mkF m 35 #[.val (.int p0), .val (.int ((((4 : Int32) * p0) + (2 : Int32)) / (3 : Int32))), .val (.int (((((((4 : Int32) * p0) + (2 : Int32)) / (3 : Int32)) - (1 : Int32)) ||| ((((((4 : Int32) * p0) + (2 : Int32)) / (3 : Int32)) - (1 : Int32)) >>> ((1 : Int32) &&& 31))) ||| (((((((4 : Int32) * p0) + (2 : Int32)) / (3 : Int32)) - (1 : Int32)) ||| ((((((4 : Int32) * p0) + (2 : Int32)) / (3 : Int32)) - (1 : Int32)) >>> ((1 : Int32) &&& 31))) >>> ((2 : Int32) &&& 31)))), .unset] [(.int ((((((((4 : Int32) * p0) + (2 : Int32)) / (3 : Int32)) - (1 : Int32)) ||| ((((((4 : Int32) * p0) + (2 : Int32)) / (3 : Int32)) - (1 : Int32)) >>> ((1 : Int32) &&& 31))) ||| (((((((4 : Int32) * p0) + (2 : Int32)) / (3 : Int32)) - (1 : Int32)) ||| ((((((4 : Int32) * p0) + (2 : Int32)) / (3 : Int32)) - (1 : Int32)) >>> ((1 : Int32) &&& 31))) >>> ((2 : Int32) &&& 31))) ||| ((((((((4 : Int32) * p0) + (2 : Int32)) / (3 : Int32)) - (1 : Int32)) ||| ((((((4 : Int32) * p0) + (2 : Int32)) / (3 : Int32)) - (1 : Int32)) >>> ((1 : Int32) &&& 31))) ||| (((((((4 : Int32) * p0) + (2 : Int32)) / (3 : Int32)) - (1 : Int32)) ||| ((((((4 : Int32) * p0) + (2 : Int32)) / (3 : Int32)) - (1 : Int32)) >>> ((1 : Int32) &&& 31))) >>> ((2 : Int32) &&& 31))) >>> ((4 : Int32) &&& 31))))]))
    refine own_st (fun _ => XS.istoreN X0.here hx rfl (hb hby own_dexp_35) rfl (l' := #[.val (.int p0), .val (.int ((((4 : Int32) * p0) + (2 : Int32)) / (3 : Int32))), .val (.int ((((((((4 : Int32) * p0) + (2 : Int32)) / (3 : Int32)) - (1 : Int32)) ||| ((((((4 : Int32) * p0) + (2 : Int32)) / (3 : Int32)) - (1 : Int32)) >>> ((1 : Int32) &&& 31))) ||| (((((((4 : Int32) * p0) + (2 : Int32)) / (3 : Int32)) - (1 : Int32)) ||| ((((((4 : Int32) * p0) + (2 : Int32)) / (3 : Int32)) - (1 : Int32)) >>> ((1 : Int32) &&& 31))) >>> ((2 : Int32) &&& 31))) ||| ((((((((4 : Int32) * p0) + (2 : Int32)) / (3 : Int32)) - (1 : Int32)) ||| ((((((4 : Int32) * p0) + (2 : Int32)) / (3 : Int32)) - (1 : Int32)) >>> ((1 : Int32) &&& 31))) ||| (((((((4 : Int32) * p0) + (2 : Int32)) / (3 : Int32)) - (1 : Int32)) ||| ((((((4 : Int32) * p0) + (2 : Int32)) / (3 : Int32)) - (1 : Int32)) >>> ((1 : Int32) &&& 31))) >>> ((2 : Int32) &&& 31))) >>> ((4 : Int32) &&& 31)))), .unset]) rfl) ?_
    show own_End p e below P (s₁.setTop (mkF m 36 #[.val (.int p0), .val (.int ((((4 : Int32) * p0) + (2 : Int32)) / (3 : Int32))), .val (.int ((((((((4 : Int32) * p0) + (2 : Int32)) / (3 : Int32)) - (1 : Int32)) ||| ((((((4 : Int32) * p0) + (2 : Int32)) / (3 : Int32)) - (1 : Int32)) >>> ((1 : Int32) &&& 31))) ||| (((((((4 : Int32) * p0) + (2 : Int32)) / (3 : Int32)) - (1 : Int32)) ||| ((((((4 : Int32) * p0) + (2 : Int32)) / (3 : Int32)) - (1 : Int32)) >>> ((1 : Int32) &&& 31))) >>> ((2 : Int32) &&& 31))) ||| ((((((((4 : Int32) * p0) + (2 : Int32)) / (3 : Int32)) - (1 : Int32)) ||| ((((((4 : Int32) * p0) + (2 : Int32)) / (3 : Int32)) - (1 : Int32)) >>> ((1 : Int32) &&& 31))) ||| (((((((4 : Int32) * p0) + (2 : Int32)) / (3 : Int32)) - (1 : Int32)) ||| ((((((4 : Int32) * p0) + (2 : Int32)) / (3 : Int32)) - (1 : Int32)) >>> ((1 : Int32) &&& 31))) >>> ((2 : Int32) &&& 31))) >>> ((4 : Int32) &&& 31)))), .unset] []))
    refine own_st (fun _ => XS.iloadN X0.here hx rfl (hb hby own_dexp_36) rfl) ?_
    show own_End p e below P (s₁.setTop (mkF m 37 #[.val (.int p0), .val (.int ((((4 : Int32) * p0) + (2 : Int32)) / (3 : Int32))), .val (.int ((((((((4 : Int32) * p0) + (2 : Int32)) / (3 : Int32)) - (1 : Int32)) ||| ((((((4 : Int32) * p0) + (2 : Int32)) / (3 : Int32)) - (1 : Int32)) >>> ((1 : Int32) &&& 31))) ||| (((((((4 : Int32) * p0) + (2 : Int32)) / (3 : Int32)) - (1 : Int32)) ||| ((((((4 : Int32) * p0) + (2 : Int32)) / (3 : Int32)) - (1 : Int32)) >>> ((1 : Int32) &&& 31))) >>> ((2 : Int32) &&& 31))) ||| ((((((((4 : Int32) * p0) + (2 : Int32)) / (3 : Int32)) - (1 : Int32)) ||| ((((((4 : Int32) * p0) + (2 : Int32)) / (3 : Int32)) - (1 : Int32)) >>> ((1 : Int32) &&& 31))) ||| (((((((4 : Int32) * p0) + (2 : Int32)) / (3 : Int32)) - (1 : Int32)) ||| ((((((4 : Int32) * p0) + (2 : Int32)) / (3 : Int32)) - (1 : Int32)) >>> ((1 : Int32) &&& 31))) >>> ((2 : Int32) &&& 31))) >>> ((4 : Int32) &&& 31)))), .unset] [(.int ((((((((4 : Int32) * p0) + (2 : Int32)) / (3 : Int32)) - (1 : Int32)) ||| ((((((4 : Int32) * p0) + (2 : Int32)) / (3 : Int32)) - (1 : Int32)) >>> ((1 : Int32) &&& 31))) ||| (((((((4 : Int32) * p0) + (2 : Int32)) / (3 : Int32)) - (1 : Int32)) ||| ((((((4 : Int32) * p0) + (2 : Int32)) / (3 : Int32)) - (1 : Int32)) >>> ((1 : Int32) &&& 31))) >>> ((2 : Int32) &&& 31))) ||| ((((((((4 : Int32) * p0) + (2 : Int32)) / (3 : Int32)) - (1 : Int32)) ||| ((((((4 : Int32) * p0) + (2 : Int32)) / (3 : Int32)) - (1 : Int32)) >>> ((1 : Int32) &&& 31))) ||| (((((((4 : Int32) * p0) + (2 : Int32)) / (3 : Int32)) - (1 : Int32)) ||| ((((((4 : Int32) * p0) + (2 : Int32)) / (3 : Int32)) - (1 : Int32)) >>> ((1 : Int32) &&& 31))) >>> ((2 : Int32) &&& 31))) >>> ((4 : Int32) &&& 31))))]))
    refine own_st (fun _ => XS.iloadN X0.here hx rfl (hb hby own_dexp_37) rfl) ?_
    show own_End p e below P (s₁.setTop (mkF m 38 #[.val (.int p0), .val (.int ((((4 : Int32) * p0) + (2 : Int32)) / (3 : Int32))), .val (.int ((((((((4 : Int32) * p0) + (2 : Int32)) / (3 : Int32)) - (1 : Int32)) ||| ((((((4 : Int32) * p0) + (2 : Int32)) / (3 : Int32)) - (1 : Int32)) >>> ((1 : Int32) &&& 31))) ||| (((((((4 : Int32) * p0) + (2 : Int32)) / (3 : Int32)) - (1 : Int32)) ||| ((((((4 : Int32) * p0) + (2 : Int32)) / (3 : Int32)) - (1 : Int32)) >>> ((1 : Int32) &&& 31))) >>> ((2 : Int32) &&& 31))) ||| ((((((((4 : Int32) * p0) + (2 : Int32)) / (3 : Int32)) - (1 : Int32)) ||| ((((((4 : Int32) * p0) + (2 : Int32)) / (3 : Int32)) - (1 : Int32)) >>> ((1 : Int32) &&& 31))) ||| (((((((4 : Int32) * p0) + (2 : Int32)) / (3 : Int32)) - (1 : Int32)) ||| ((((((4 : Int32) * p0) + (2 : Int32)) / (3 : Int32)) - (1 : Int32)) >>> ((1 : Int32) &&& 31))) >>> ((2 : Int32) &&& 31))) >>> ((4 : Int32) &&& 31)))), .unset] [(.int ((((((((4 : Int32) * p0) + (2 : Int32)) / (3 : Int32)) - (1 : Int32)) ||| ((((((4 : Int32) * p0) + (2 : Int32)) / (3 : Int32)) - (1 : Int32)) >>> ((1 : Int32) &&& 31))) ||| (((((((4 : Int32) * p0) + (2 : Int32)) / (3 : Int32)) - (1 : Int32)) ||| ((((((4 : Int32) * p0) + (2 : Int32)) / (3 : Int32)) - (1 : Int32)) >>> ((1 : Int32) &&& 31))) >>> ((2 : Int32) &&& 31))) ||| ((((((((4 : Int32) * p0) + (2 : Int32)) / (3 : Int32)) - (1 : Int32)) ||| ((((((4 : Int32) * p0) + (2 : Int32)) / (3 : Int32)) - (1 : Int32)) >>> ((1 : Int32) &&& 31))) ||| (((((((4 : Int32) * p0) + (2 : Int32)) / (3 : Int32)) - (1 : Int32)) ||| ((((((4 : Int32) * p0) + (2 : Int32)) / (3 : Int32)) - (1 : Int32)) >>> ((1 : Int32) &&& 31))) >>> ((2 : Int32) &&& 31))) >>> ((4 : Int32) &&& 31)))), (.int ((((((((4 : Int32) * p0) + (2 : Int32)) / (3 : Int32)) - (1 : Int32)) ||| ((((((4 : Int32) * p0) + (2 : Int32)) / (3 : Int32)) - (1 : Int32)) >>> ((1 : Int32) &&& 31))) ||| (((((((4 : Int32) * p0) + (2 : Int32)) / (3 : Int32)) - (1 : Int32)) ||| ((((((4 : Int32) * p0) + (2 : Int32)) / (3 : Int32)) - (1 : Int32)) >>> ((1 : Int32) &&& 31))) >>> ((2 : Int32) &&& 31))) ||| ((((((((4 : Int32) * p0) + (2 : Int32)) / (3 : Int32)) - (1 : Int32)) ||| ((((((4 : Int32) * p0) + (2 : Int32)) / (3 : Int32)) - (1 : Int32)) >>> ((1 : Int32) &&& 31))) ||| (((((((4 : Int32) * p0) + (2 : Int32)) / (3 : Int32)) - (1 : Int32)) ||| ((((((4 : Int32) * p0) + (2 : Int32)) / (3 : Int32)) - (1 : Int32)) >>> ((1 : Int32) &&& 31))) >>> ((2 : Int32) &&& 31))) >>> ((4 : Int32) &&& 31))))]))
    refine own_st (fun _ => XS.bipush X0.here hx rfl (hb hby own_dexp_38)) ?_
    show own_End p e below P (s₁.setTop (mkF m 40 #[.val (.int p0), .val (.int ((((4 : Int32) * p0) + (2 : Int32)) / (3 : Int32))), .val (.int ((((((((4 : Int32) * p0) + (2 : Int32)) / (3 : Int32)) - (1 : Int32)) ||| ((((((4 : Int32) * p0) + (2 : Int32)) / (3 : Int32)) - (1 : Int32)) >>> ((1 : Int32) &&& 31))) ||| (((((((4 : Int32) * p0) + (2 : Int32)) / (3 : Int32)) - (1 : Int32)) ||| ((((((4 : Int32) * p0) + (2 : Int32)) / (3 : Int32)) - (1 : Int32)) >>> ((1 : Int32) &&& 31))) >>> ((2 : Int32) &&& 31))) ||| ((((((((4 : Int32) * p0) + (2 : Int32)) / (3 : Int32)) - (1 : Int32)) ||| ((((((4 : Int32) * p0) + (2 : Int32)) / (3 : Int32)) - (1 : Int32)) >>> ((1 : Int32) &&& 31))) ||| (((((((4 : Int32) * p0) + (2 : Int32)) / (3 : Int32)) - (1 : Int32)) ||| ((((((4 : Int32) * p0) + (2 : Int32)) / (3 : Int32)) - (1 : Int32)) >>> ((1 : Int32) &&& 31))) >>> ((2 : Int32) &&& 31))) >>> ((4 : Int32) &&& 31)))), .unset] [(.int (8 : Int32)), (.int ((((((((4 : Int32) * p0) + (2 : Int32)) / (3 : Int32)) - (1 : Int32)) ||| ((((((4 : Int32) * p0) + (2 : Int32)) / (3 : Int32)) - (1 : Int32)) >>> ((1 : Int32) &&& 31))) ||| (((((((4 : Int32) * p0) + (2 : Int32)) / (3 : Int32)) - (1 : Int32)) ||| ((((((4 : Int32) * p0) + (2 : Int32)) / (3 : Int32)) - (1 : Int32)) >>> ((1 : Int32) &&& 31))) >>> ((2 : Int32) &&& 31))) ||| ((((((((4 : Int32) * p0) + (2 : Int32)) / (3 : Int32)) - (1 : Int32)) ||| ((((((4 : Int32) * p0) + (2 : Int32)) / (3 : Int32)) - (1 : Int32)) >>> ((1 : Int32) &&& 31))) ||| (((((((4 : Int32) * p0) + (2 : Int32)) / (3 : Int32)) - (1 : Int32)) ||| ((((((4 : Int32) * p0) + (2 : Int32)) / (3 : Int32)) - (1 : Int32)) >>> ((1 : Int32) &&& 31))) >>> ((2 : Int32) &&& 31))) >>> ((4 : Int32) &&& 31)))), (.int ((((((((4 : Int32) * p0) + (2 : Int32)) / (3 : Int32)) - (1 : Int32)) ||| ((((((4 : Int32) * p0) + (2 : Int32)) / (3 : Int32)) - (1 : Int32)) >>> ((1 : Int32) &&& 31))) ||| (((((((4 : Int32) * p0) + (2 : Int32)) / (3 : Int32)) - (1 : Int32)) ||| ((((((4 : Int32) * p0) + (2 : Int32)) / (3 : Int32)) - (1 : Int32)) >>> ((1 : Int32) &&& 31))) >>> ((2 : Int32) &&& 31))) ||| ((((((((4 : Int32) * p0) + (2 : Int32)) / (3 : Int32)) - (1 : Int32)) ||| ((((((4 : Int32) * p0) + (2 : Int32)) / (3 : Int32)) - (1 : Int32)) >>> ((1 : Int32) &&& 31))) ||| (((((((4 : Int32) * p0) + (2 : Int32)) / (3 : Int32)) - (1 : Int32)) ||| ((((((4 : Int32) * p0) + (2 : Int32)) / (3 : Int32)) - (1 : Int32)) >>> ((1 : Int32) &&& 31))) >>> ((2 : Int32) &&& 31))) >>> ((4 : Int32) &&& 31))))]))
    refine own_st (fun _ => XS.ishr X0.here hx rfl (hb hby own_dexp_40) rfl) ?_
    show own_End p e below P (s₁.setTop (mkF m 41 #[.val (.int p0), .val (.int ((((4 : Int32) * p0) + (2 : Int32)) / (3 : Int32))), .val (.int ((((((((4 : Int32) * p0) + (2 : Int32)) / (3 : Int32)) - (1 : Int32)) ||| ((((((4 : Int32) * p0) + (2 : Int32)) / (3 : Int32)) - (1 : Int32)) >>> ((1 : Int32) &&& 31))) ||| (((((((4 : Int32) * p0) + (2 : Int32)) / (3 : Int32)) - (1 : Int32)) ||| ((((((4 : Int32) * p0) + (2 : Int32)) / (3 : Int32)) - (1 : Int32)) >>> ((1 : Int32) &&& 31))) >>> ((2 : Int32) &&& 31))) ||| ((((((((4 : Int32) * p0) + (2 : Int32)) / (3 : Int32)) - (1 : Int32)) ||| ((((((4 : Int32) * p0) + (2 : Int32)) / (3 : Int32)) - (1 : Int32)) >>> ((1 : Int32) &&& 31))) ||| (((((((4 : Int32) * p0) + (2 : Int32)) / (3 : Int32)) - (1 : Int32)) ||| ((((((4 : Int32) * p0) + (2 : Int32)) / (3 : Int32)) - (1 : Int32)) >>> ((1 : Int32) &&& 31))) >>> ((2 : Int32) &&& 31))) >>> ((4 : Int32) &&& 31)))), .unset] [(.int (((((((((4 : Int32) * p0) + (2 : Int32)) / (3 : Int32)) - (1 : Int32)) ||| ((((((4 : Int32) * p0) + (2 : Int32)) / (3 : Int32)) - (1 : Int32)) >>> ((1 : Int32) &&& 31))) ||| (((((((4 : Int32) * p0) + (2 : Int32)) / (3 : Int32)) - (1 : Int32)) ||| ((((((4 : Int32) * p0) + (2 : Int32)) / (3 : Int32)) - (1 : Int32)) >>> ((1 : Int32) &&& 31))) >>> ((2 : Int32) &&& 31))) ||| ((((((((4 : Int32) * p0) + (2 : Int32)) / (3 : Int32)) - (1 : Int32)) ||| ((((((4 : Int32) * p0) + (2 : Int32)) / (3 : Int32)) - (1 : Int32)) >>> ((1 : Int32) &&& 31))) ||| (((((((4 : Int32) * p0) + (2 : Int32)) / (3 : Int32)) - (1 : Int32)) ||| ((((((4 : Int32) * p0) + (2 : Int32)) / (3 : Int32)) - (1 : Int32)) >>> ((1 : Int32) &&& 31))) >>> ((2 : Int32) &&& 31))) >>> ((4 : Int32) &&& 31))) >>> ((8 : Int32) &&& 31))), (.int ((((((((4 : Int32) * p0) + (2 : Int32)) / (3 : Int32)) - (1 : Int32)) ||| ((((((4 : Int32) * p0) + (2 : Int32)) / (3 : Int32)) - (1 : Int32)) >>> ((1 : Int32) &&& 31))) ||| (((((((4 : Int32) * p0) + (2 : Int32)) / (3 : Int32)) - (1 : Int32)) ||| ((((((4 : Int32) * p0) + (2 : Int32)) / (3 : Int32)) - (1 : Int32)) >>> ((1 : Int32) &&& 31))) >>> ((2 : Int32) &&& 31))) ||| ((((((((4 : Int32) * p0) + (2 : Int32)) / (3 : Int32)) - (1 : Int32)) ||| ((((((4 : Int32) * p0) + (2 : Int32)) / (3 : Int32)) - (1 : Int32)) >>> ((1 : Int32) &&& 31))) ||| (((((((4 : Int32) * p0) + (2 : Int32)) / (3 : Int32)) - (1 : Int32)) ||| ((((((4 : Int32) * p0) + (2 : Int32)) / (3 : Int32)) - (1 : Int32)) >>> ((1 : Int32) &&& 31))) >>> ((2 : Int32) &&& 31))) >>> ((4 : Int32) &&& 31))))]))
    refine own_st (fun _ => XS.ior X0.here hx rfl (hb hby own_dexp_41) rfl) ?_
    show own_End p e below P (s₁.setTop (mkF m 42 #[.val (.int p0), .val (.int ((((4 : Int32) * p0) + (2 : Int32)) / (3 : Int32))), .val (.int ((((((((4 : Int32) * p0) + (2 : Int32)) / (3 : Int32)) - (1 : Int32)) ||| ((((((4 : Int32) * p0) + (2 : Int32)) / (3 : Int32)) - (1 : Int32)) >>> ((1 : Int32) &&& 31))) ||| (((((((4 : Int32) * p0) + (2 : Int32)) / (3 : Int32)) - (1 : Int32)) ||| ((((((4 : Int32) * p0) + (2 : Int32)) / (3 : Int32)) - (1 : Int32)) >>> ((1 : Int32) &&& 31))) >>> ((2 : Int32) &&& 31))) ||| ((((((((4 : Int32) * p0) + (2 : Int32)) / (3 : Int32)) - (1 : Int32)) ||| ((((((4 : Int32) * p0) + (2 : Int32)) / (3 : Int32)) - (1 : Int32)) >>> ((1 : Int32) &&& 31))) ||| (((((((4 : Int32) * p0) + (2 : Int32)) / (3 : Int32)) - (1 : Int32)) ||| ((((((4 : Int32) * p0) + (2 : Int32)) / (3 : Int32)) - (1 : Int32)) >>> ((1 : Int32) &&& 31))) >>> ((2 : Int32) &&& 31))) >>> ((4 : Int32) &&& 31)))), .unset] [(.int (((((((((4 : Int32) * p0) + (2 : Int32)) / (3 : Int32)) - (1 : Int32)) ||| ((((((4 : Int32) * p0) + (2 : Int32)) / (3 : Int32)) - (1 : Int32)) >>> ((1 : Int32) &&& 31))) ||| (((((((4 : Int32) * p0) + (2 : Int32)) / (3 : Int32)) - (1 : Int32)) ||| ((((((4 : Int32) * p0) + (2 : Int32)) / (3 : Int32)) - (1 : Int32)) >>> ((1 : Int32) &&& 31))) >>> ((2 : Int32) &&& 31))) ||| ((((((((4 : Int32) * p0) + (2 : Int32)) / (3 : Int32)) - (1 : Int32)) ||| ((((((4 : Int32) * p0) + (2 : Int32)) / (3 : Int32)) - (1 : Int32)) >>> ((1 : Int32) &&& 31))) ||| (((((((4 : Int32) * p0) + (2 : Int32)) / (3 : Int32)) - (1 : Int32)) ||| ((((((4 : Int32) * p0) + (2 : Int32)) / (3 : Int32)) - (1 : Int32)) >>> ((1 : Int32) &&& 31))) >>> ((2 : Int32) &&& 31))) >>> ((4 : Int32) &&& 31))) ||| (((((((((4 : Int32) * p0) + (2 : Int32)) / (3 : Int32)) - (1 : Int32)) ||| ((((((4 : Int32) * p0) + (2 : Int32)) / (3 : Int32)) - (1 : Int32)) >>> ((1 : Int32) &&& 31))) ||| (((((((4 : Int32) * p0) + (2 : Int32)) / (3 : Int32)) - (1 : Int32)) ||| ((((((4 : Int32) * p0) + (2 : Int32)) / (3 : Int32)) - (1 : Int32)) >>> ((1 : Int32) &&& 31))) >>> ((2 : Int32) &&& 31))) ||| ((((((((4 : Int32) * p0) + (2 : Int32)) / (3 : Int32)) - (1 : Int32)) ||| ((((((4 : Int32) * p0) + (2 : Int32)) / (3 : Int32)) - (1 : Int32)) >>> ((1 : Int32) &&& 31))) ||| (((((((4 : Int32) * p0) + (2 : Int32)) / (3 : Int32)) - (1 : Int32)) ||| ((((((4 : Int32) * p0) + (2 : Int32)) / (3 : Int32)) - (1 : Int32)) >>> ((1 : Int32) &&& 31))) >>> ((2 : Int32) &&& 31))) >>> ((4 : Int32) &&& 31))) >>> ((8 : Int32) &&& 31))))]))
    refine own_st (fun _ => XS.istoreN X0.here hx rfl (hb hby own_dexp_42) rfl (l' := #[.val (.int p0), .val (.int ((((4 : Int32) * p0) + (2 : Int32)) / (3 : Int32))), .val (.int (((((((((4 : Int32) * p0) + (2 : Int32)) / (3 : Int32)) - (1 : Int32)) ||| ((((((4 : Int32) * p0) + (2 : Int32)) / (3 : Int32)) - (1 : Int32)) >>> ((1 : Int32) &&& 31))) ||| (((((((4 : Int32) * p0) + (2 : Int32)) / (3 : Int32)) - (1 : Int32)) ||| ((((((4 : Int32) * p0) + (2 : Int32)) / (3 : Int32)) - (1 : Int32)) >>> ((1 : Int32) &&& 31))) >>> ((2 : Int32) &&& 31))) ||| ((((((((4 : Int32) * p0) + (2 : Int32)) / (3 : Int32)) - (1 : Int32)) ||| ((((((4 : Int32) * p0) + (2 : Int32)) / (3 : Int32)) - (1 : Int32)) >>> ((1 : Int32) &&& 31))) ||| (((((((4 : Int32) * p0) + (2 : Int32)) / (3 : Int32)) - (1 : Int32)) ||| ((((((4 : Int32) * p0) + (2 : Int32)) / (3 : Int32)) - (1 : Int32)) >>> ((1 : Int32) &&& 31))) >>> ((2 : Int32) &&& 31))) >>> ((4 : Int32) &&& 31))) ||| (((((((((4 : Int32) * p0) + (2 : Int32)) / (3 : Int32)) - (1 : Int32)) ||| ((((((4 : Int32) * p0) + (2 : Int32)) / (3 : Int32)) - (1 : Int32)) >>> ((1 : Int32) &&& 31))) ||| (((((((4 : Int32) * p0) + (2 : Int32)) / (3 : Int32)) - (1 : Int32)) ||| ((((((4 : Int32) * p0) + (2 : Int32)) / (3 : Int32)) - (1 : Int32)) >>> ((1 : Int32) &&& 31))) >>> ((2 : Int32) &&& 31))) ||| ((((((((4 : Int32) * p0) + (2 : Int32)) / (3 : Int32)) - (1 : Int32)) ||| ((((((4 : Int32) * p0) + (2 : Int32)) / (3 : Int32)) - (1 : Int32)) >>> ((1 : Int32) &&& 31))) ||| (((((((4 : Int32) * p0) + (2 : Int32)) / (3 : Int32)) - (1 : Int32)) ||| ((((((4 : Int32) * p0) + (2 : Int32)) / (3 : Int32)) - (1 : Int32)) >>> ((1 : Int32) &&& 31))) >>> ((2 : Int32) &&& 31))) >>> ((4 : Int32) &&& 31))) >>> ((8 : Int32) &&& 31)))), .unset]) rfl) ?_
    show own_End p e below P (s₁.setTop (mkF m 43 #[.val (.int p0), .val (.int ((((4 : Int32) * p0) + (2 : Int32)) / (3 : Int32))), .val (.int (((((((((4 : Int32) * p0) + (2 : Int32)) / (3 : Int32)) - (1 : Int32)) ||| ((((((4 : Int32) * p0) + (2 : Int32)) / (3 : Int32)) - (1 : Int32)) >>> ((1 : Int32) &&& 31))) ||| (((((((4 : Int32) * p0) + (2 : Int32)) / (3 : Int32)) - (1 : Int32)) ||| ((((((4 : Int32) * p0) + (2 : Int32)) / (3 : Int32)) - (1 : Int32)) >>> ((1 : Int32) &&& 31))) >>> ((2 : Int32) &&& 31))) ||| ((((((((4 : Int32) * p0) + (2 : Int32)) / (3 : Int32)) - (1 : Int32)) ||| ((((((4 : Int32) * p0) + (2 : Int32)) / (3 : Int32)) - (1 : Int32)) >>> ((1 : Int32) &&& 31))) ||| (((((((4 : Int32) * p0) + (2 : Int32)) / (3 : Int32)) - (1 : Int32)) ||| ((((((4 : Int32) * p0) + (2 : Int32)) / (3 : Int32)) - (1 : Int32)) >>> ((1 : Int32) &&& 31))) >>> ((2 : Int32) &&& 31))) >>> ((4 : Int32) &&& 31))) ||| (((((((((4 : Int32) * p0) + (2 : Int32)) / (3 : Int32)) - (1 : Int32)) ||| ((((((4 : Int32) * p0) + (2 : Int32)) / (3 : Int32)) - (1 : Int32)) >>> ((1 : Int32) &&& 31))) ||| (((((((4 : Int32) * p0) + (2 : Int32)) / (3 : Int32)) - (1 : Int32)) ||| ((((((4 : Int32) * p0) + (2 : Int32)) / (3 : Int32)) - (1 : Int32)) >>> ((1 : Int32) &&& 31))) >>> ((2 : Int32) &&& 31))) ||| ((((((((4 : Int32) * p0) + (2 : Int32)) / (3 : Int32)) - (1 : Int32)) ||| ((((((4 : Int32) * p0) + (2 : Int32)) / (3 : Int32)) - (1 : Int32)) >>> ((1 : Int32) &&& 31))) ||| (((((((4 : Int32) * p0) + (2 : Int32)) / (3 : Int32)) - (1 : Int32)) ||| ((((((4 : Int32) * p0) + (2 : Int32)) / (3 : Int32)) - (1 : Int32)) >>> ((1 : Int32) &&& 31))) >>> ((2 : Int32) &&& 31))) >>> ((4 : Int32) &&& 31))) >>> ((8 : Int32) &&& 31)))), .unset] []))
    refine own_st (fun _ => XS.iloadN X0.here hx rfl (hb hby own_dexp_43) rfl) ?_
    show own_End p e below P (s₁.setTop (mkF m 44 #[.val (.int p0), .val (.int ((((4 : Int32) * p0) + (2 : Int32)) / (3 : Int32))), .val (.int (((((((((4 : Int32) * p0) + (2 : Int32)) / (3 : Int32)) - (1 : Int32)) ||| ((((((4 : Int32) * p0) + (2 : Int32)) / (3 : Int32)) - (1 : Int32)) >>> ((1 : Int32) &&& 31))) ||| (((((((4 : Int32) * p0) + (2 : Int32)) / (3 : Int32)) - (1 : Int32)) ||| ((((((4 : Int32) * p0) + (2 : Int32)) / (3 : Int32)) - (1 : Int32)) >>> ((1 : Int32) &&& 31))) >>> ((2 : Int32) &&& 31))) ||| ((((((((4 : Int32) * p0) + (2 : Int32)) / (3 : Int32)) - (1 : Int32)) ||| ((((((4 : Int32) * p0) + (2 : Int32)) / (3 : Int32)) - (1 : Int32)) >>> ((1 : Int32) &&& 31))) ||| (((((((4 : Int32) * p0) + (2 : Int32)) / (3 : Int32)) - (1 : Int32)) ||| ((((((4 : Int32) * p0) + (2 : Int32)) / (3 : Int32)) - (1 : Int32)) >>> ((1 : Int32) &&& 31))) >>> ((2 : Int32) &&& 31))) >>> ((4 : Int32) &&& 31))) ||| (((((((((4 : Int32) * p0) + (2 : Int32)) / (3 : Int32)) - (1 : Int32)) ||| ((((((4 : Int32) * p0) + (2 : Int32)) / (3 : Int32)) - (1 : Int32)) >>> ((1 : Int32) &&& 31))) ||| (((((((4 : Int32) * p0) + (2 : Int32)) / (3 : Int32)) - (1 : Int32)) ||| ((((((4 : Int32) * p0) + (2 : Int32)) / (3 : Int32)) - (1 : Int32)) >>> ((1 : Int32) &&& 31))) >>> ((2 : Int32) &&& 31))) ||| ((((((((4 : Int32) * p0) + (2 : Int32)) / (3 : Int32)) - (1 : Int32)) ||| ((((((4 : Int32) * p0) + (2 : Int32)) / (3 : Int32)) - (1 : Int32)) >>> ((1 : Int32) &&& 31))) ||| (((((((4 : Int32) * p0) + (2 : Int32)) / (3 : Int32)) - (1 : Int32)) ||| ((((((4 : Int32) * p0) + (2 : Int32)) / (3 : Int32)) - (1 : Int32)) >>> ((1 : Int32) &&& 31))) >>> ((2 : Int32) &&& 31))) >>> ((4 : Int32) &&& 31))) >>> ((8 : Int32) &&& 31)))), .unset] [(.int (((((((((4 : Int32) * p0) + (2 : Int32)) / (3 : Int32)) - (1 : Int32)) ||| ((((((4 : Int32) * p0) + (2 : Int32)) / (3 : Int32)) - (1 : Int32)) >>> ((1 : Int32) &&& 31))) ||| (((((((4 : Int32) * p0) + (2 : Int32)) / (3 : Int32)) - (1 : Int32)) ||| ((((((4 : Int32) * p0) + (2 : Int32)) / (3 : Int32)) - (1 : Int32)) >>> ((1 : Int32) &&& 31))) >>> ((2 : Int32) &&& 31))) ||| ((((((((4 : Int32) * p0) + (2 : Int32)) / (3 : Int32)) - (1 : Int32)) ||| ((((((4 : Int32) * p0) + (2 : Int32)) / (3 : Int32)) - (1 : Int32)) >>> ((1 : Int32) &&& 31))) ||| (((((((4 : Int32) * p0) + (2 : Int32)) / (3 : Int32)) - (1 : Int32)) ||| ((((((4 : Int32) * p0) + (2 : Int32)) / (3 : Int32)) - (1 : Int32)) >>> ((1 : Int32) &&& 31))) >>> ((2 : Int32) &&& 31))) >>> ((4 : Int32) &&& 31))) ||| (((((((((4 : Int32) * p0) + (2 : Int32)) / (3 : Int32)) - (1 : Int32)) ||| ((((((4 : Int32) * p0) + (2 : Int32)) / (3 : Int32)) - (1 : Int32)) >>> ((1 : Int32) &&& 31))) ||| (((((((4 : Int32) * p0) + (2 : Int32)) / (3 : Int32)) - (1 : Int32)) ||| ((((((4 : Int32) * p0) + (2 : Int32)) / (3 : Int32)) - (1 : Int32)) >>> ((1 : Int32) &&& 31))) >>> ((2 : Int32) &&& 31))) ||| ((((((((4 : Int32) * p0) + (2 : Int32)) / (3 : Int32)) - (1 : Int32)) ||| ((((((4 : Int32) * p0) + (2 : Int32)) / (3 : Int32)) - (1 : Int32)) >>> ((1 : Int32) &&& 31))) ||| (((((((4 : Int32) * p0) + (2 : Int32)) / (3 : Int32)) - (1 : Int32)) ||| ((((((4 : Int32) * p0) + (2 : Int32)) / (3 : Int32)) - (1 : Int32)) >>> ((1 : Int32) &&& 31))) >>> ((2 : Int32) &&& 31))) >>> ((4 : Int32) &&& 31))) >>> ((8 : Int32) &&& 31))))]))
    refine own_st (fun _ => XS.iloadN X0.here hx rfl (hb hby own_dexp_44) rfl) ?_
    show own_End p e below P (s₁.setTop (mkF m 45 #[.val (.int p0), .val (.int ((((4 : Int32) * p0) + (2 : Int32)) / (3 : Int32))), .val (.int (((((((((4 : Int32) * p0) + (2 : Int32)) / (3 : Int32)) - (1 : Int32)) ||| ((((((4 : Int32) * p0) + (2 : Int32)) / (3 : Int32)) - (1 : Int32)) >>> ((1 : Int32) &&& 31))) ||| (((((((4 : Int32) * p0) + (2 : Int32)) / (3 : Int32)) - (1 : Int32)) ||| ((((((4 : Int32) * p0) + (2 : Int32)) / (3 : Int32)) - (1 : Int32)) >>> ((1 : Int32) &&& 31))) >>> ((2 : Int32) &&& 31))) ||| ((((((((4 : Int32) * p0) + (2 : Int32)) / (3 : Int32)) - (1 : Int32)) ||| ((((((4 : Int32) * p0) + (2 : Int32)) / (3 : Int32)) - (1 : Int32)) >>> ((1 : Int32) &&& 31))) ||| (((((((4 : Int32) * p0) + (2 : Int32)) / (3 : Int32)) - (1 : Int32)) ||| ((((((4 : Int32) * p0) + (2 : Int32)) / (3 : Int32)) - (1 : Int32)) >>> ((1 : Int32) &&& 31))) >>> ((2 : Int32) &&& 31))) >>> ((4 : Int32) &&& 31))) ||| (((((((((4 : Int32) * p0) + (2 : Int32)) / (3 : Int32)) - (1 : Int32)) ||| ((((((4 : Int32) * p0) + (2 : Int32)) / (3 : Int32)) - (1 : Int32)) >>> ((1 : Int32) &&& 31))) ||| (((((((4 : Int32) * p0) + (2 : Int32)) / (3 : Int32)) - (1 : Int32)) ||| ((((((4 : Int32) * p0) + (2 : Int32)) / (3 : Int32)) - (1 : Int32)) >>> ((1 : Int32) &&& 31))) >>> ((2 : Int32) &&& 31))) ||| ((((((((4 : Int32) * p0) + (2 : Int32)) / (3 : Int32)) - (1 : Int32)) ||| ((((((4 : Int32) * p0) + (2 : Int32)) / (3 : Int32)) - (1 : Int32)) >>> ((1 : Int32) &&& 31))) ||| (((((((4 : Int32) * p0) + (2 : Int32)) / (3 : Int32)) - (1 : Int32)) ||| ((((((4 : Int32) * p0) + (2 : Int32)) / (3 : Int32)) - (1 : Int32)) >>> ((1 : Int32) &&& 31))) >>> ((2 : Int32) &&& 31))) >>> ((4 : Int32) &&& 31))) >>> ((8 : Int32) &&& 31)))), .unset] [(.int (((((((((4 : Int32) * p0) + (2 : Int32)) / (3 : Int32)) - (1 : Int32)) ||| ((((((4 : Int32) * p0) + (2 : Int32)) / (3 : Int32)) - (1 : Int32)) >>> ((1 : Int32) &&& 31))) ||| (((((((4 : Int32) * p0) + (2 : Int32)) / (3 : Int32)) - (1 : Int32)) ||| ((((((4 : Int32) * p0) + (2 : Int32)) / (3 : Int32)) - (1 : Int32)) >>> ((1 : Int32) &&& 31))) >>> ((2 : Int32) &&& 31))) ||| ((((((((4 : Int32) * p0) + (2 : Int32)) / (3 : Int32)) - (1 : Int32)) ||| ((((((4 : Int32) * p0) + (2 : Int32)) / (3 : Int32)) - (1 : Int32)) >>> ((1 : Int32) &&& 31))) ||| (((((((4 : Int32) * p0) + (2 : Int32)) / (3 : Int32)) - (1 : Int32)) ||| ((((((4 : Int32) * p0) + (2 : Int32)) / (3 : Int32)) - (1 : Int32)) >>> ((1 : Int32) &&& 31))) >>> ((2 : Int32) &&& 31))) >>> ((4 : Int32) &&& 31))) ||| (((((((((4 : Int32) * p0) + (2 : Int32)) / (3 : Int32)) - (1 : Int32)) ||| ((((((4 : Int32) * p0) + (2 : Int32)) / (3 : Int32)) - (1 : Int32)) >>> ((1 : Int32) &&& 31))) ||| (((((((4 : Int32) * p0) + (2 : Int32)) / (3 : Int32)) - (1 : Int32)) ||| ((((((4 : Int32) * p0) + (2 : Int32)) / (3 : Int32)) - (1 : Int32)) >>> ((1 : Int32) &&& 31))) >>> ((2 : Int32) &&& 31))) ||| ((((((((4 : Int32) * p0) + (2 : Int32)) / (3 : Int32)) - (1 : Int32)) ||| ((((((4 : Int32) * p0) + (2 : Int32)) / (3 : Int32)) - (1 : Int32)) >>> ((1 : Int32) &&& 31))) ||| (((((((4 : Int32) * p0) + (2 : Int32)) / (3 : Int32)) - (1 : Int32)) ||| ((((((4 : Int32) * p0) + (2 : Int32)) / (3 : Int32)) - (1 : Int32)) >>> ((1 : Int32) &&& 31))) >>> ((2 : Int32) &&& 31))) >>> ((4 : Int32) &&& 31))) >>> ((8 : Int32) &&& 31)))), (.int (((((((((4 : Int32) * p0) + (2 : Int32)) / (3 : Int32)) - (1 : Int32)) ||| ((((((4 : Int32) * p0) + (2 : Int32)) / (3 : Int32)) - (1 : Int32)) >>> ((1 : Int32) &&& 31))) ||| (((((((4 : Int32) * p0) + (2 : Int32)) / (3 : Int32)) - (1 : Int32)) ||| ((((((4 : Int32) * p0) + (2 : Int32)) / (3 : Int32)) - (1 : Int32)) >>> ((1 : Int32) &&& 31))) >>> ((2 : Int32) &&& 31))) ||| ((((((((4 : Int32) * p0) + (2 : Int32)) / (3 : Int32)) - (1 : Int32)) ||| ((((((4 : Int32) * p0) + (2 : Int32)) / (3 : Int32)) - (1 : Int32)) >>> ((1 : Int32) &&& 31))) ||| (((((((4 : Int32) * p0) + (2 : Int32)) / (3 : Int32)) - (1 : Int32)) ||| ((((((4 : Int32) * p0) + (2 : Int32)) / (3 : Int32)) - (1 : Int32)) >>> ((1 : Int32) &&& 31))) >>> ((2 : Int32) &&& 31))) >>> ((4 : Int32) &&& 31))) ||| (((((((((4 : Int32) * p0) + (2 : Int32)) / (3 : Int32)) - (1 : Int32)) ||| ((((((4 : Int32) * p0) + (2 : Int32)) / (3 : Int32)) - (1 : Int32)) >>> ((1 : Int32) &&& 31))) ||| (((((((4 : Int32) * p0) + (2 : Int32)) / (3 : Int32)) - (1 : Int32)) ||| ((((((4 : Int32) * p0) + (2 : Int32)) / (3 : Int32)) - (1 : Int32)) >>> ((1 : Int32) &&& 31))) >>> ((2 : Int32) &&& 31))) ||| ((((((((4 : Int32) * p0) + (2 : Int32)) / (3 : Int32)) - (1 : Int32)) ||| ((((((4 : Int32) * p0) + (2 : Int32)) / (3 : Int32)) - (1 : Int32)) >>> ((1 : Int32) &&& 31))) ||| (((((((4 : Int32) * p0) + (2 : Int32)) / (3 : Int32)) - (1 : Int32)) ||| ((((((4 : Int32) * p0) + (2 : Int32)) / (3 : Int32)) - (1 : Int32)) >>> ((1 : Int32) &&& 31))) >>> ((2 : Int32) &&& 31))) >>> ((4 : Int32) &&& 31))) >>> ((8 : Int32) &&& 31))))]))
    refine own_st (fun _ => XS.bipush X0.here hx rfl (hb hby own_dexp_45)) ?_
    show own_End p e below P (s₁.setTop (mkF m 47 #[.val (.int p0), .val (.int ((((4 : Int32) * p0) + (2 : Int32)) / (3 : Int32))), .val (.int (((((((((4 : Int32) * p0) + (2 : Int32)) / (3 : Int32)) - (1 : Int32)) ||| ((((((4 : Int32) * p0) + (2 : Int32)) / (3 : Int32)) - (1 : Int32)) >>> ((1 : Int32) &&& 31))) ||| (((((((4 : Int32) * p0) + (2 : Int32)) / (3 : Int32)) - (1 : Int32)) ||| ((((((4 : Int32) * p0) + (2 : Int32)) / (3 : Int32)) - (1 : Int32)) >>> ((1 : Int32) &&& 31))) >>> ((2 : Int32) &&& 31))) ||| ((((((((4 : Int32) * p0) + (2 : Int32)) / (3 : Int32)) - (1 : Int32)) ||| ((((((4 : Int32) * p0) + (2 : Int32)) / (3 : Int32)) - (1 : Int32)) >>> ((1 : Int32) &&& 31))) ||| (((((((4 : Int32) * p0) + (2 : Int32)) / (3 : Int32)) - (1 : Int32)) ||| ((((((4 : Int32) * p0) + (2 : Int32)) / (3 : Int32)) - (1 : Int32)) >>> ((1 : Int32) &&& 31))) >>> ((2 : Int32) &&& 31))) >>> ((4 : Int32) &&& 31))) ||| (((((((((4 : Int32) * p0) + (2 : Int32)) / (3 : Int32)) - (1 : Int32)) ||| ((((((4 : Int32) * p0) + (2 : Int32)) / (3 : Int32)) - (1 : Int32)) >>> ((1 : Int32) &&& 31))) ||| (((((((4 : Int32) * p0) + (2 : Int32)) / (3 : Int32)) - (1 : Int32)) ||| ((((((4 : Int32) * p0) + (2 : Int32)) / (3 : Int32)) - (1 : Int32)) >>> ((1 : Int32) &&& 31))) >>> ((2 : Int32) &&& 31))) ||| ((((((((4 : Int32) * p0) + (2 : Int32)) / (3 : Int32)) - (1 : Int32)) ||| ((((((4 : Int32) * p0) + (2 : Int32)) / (3 : Int32)) - (1 : Int32)) >>> ((1 : Int32) &&& 31))) ||| (((((((4 : Int32) * p0) + (2 : Int32)) / (3 : Int32)) - (1 : Int32)) ||| ((((((4 : Int32) * p0) + (2 : Int32)) / (3 : Int32)) - (1 : Int32)) >>> ((1 : Int32) &&& 31))) >>> ((2 : Int32) &&& 31))) >>> ((4 : Int32) &&& 31))) >>> ((8 : Int32) &&& 31)))), .unset] [(.int (16 : Int32)), (.int (((((((((4 : Int32) * p0) + (2 : Int32)) / (3 : Int32)) - (1 : Int32)) ||| ((((((4 : Int32) * p0) + (2 : Int32)) / (3 : Int32)) - (1 : Int32)) >>> ((1 : Int32) &&& 31))) ||| (((((((4 : Int32) * p0) + (2 : Int32)) / (3 : Int32)) - (1 : Int32)) ||| ((((((4 : Int32) * p0) + (2 : Int32)) / (3 : Int32)) - (1 : Int32)) >>> ((1 : Int32) &&& 31))) >>> ((2 : Int32) &&& 31))) ||| ((((((((4 : Int32) * p0) + (2 : Int32)) / (3 : Int32)) - (1 : Int32)) ||| ((((((4 : Int32) * p0) + (2 : Int32)) / (3 : Int32)) - (1 : Int32)) >>> ((1 : Int32) &&& 31))) ||| (((((((4 : Int32) * p0) + (2 : Int32)) / (3 : Int32)) - (1 : Int32)) ||| ((((((4 : Int32) * p0) + (2 : Int32)) / (3 : Int32)) - (1 : Int32)) >>> ((1 : Int32) &&& 31))) >>> ((2 : Int32) &&& 31))) >>> ((4 : Int32) &&& 31))) ||| (((((((((4 : Int32) * p0) + (2 : Int32)) / (3 : Int32)) - (1 : Int32)) ||| ((((((4 : Int32) * p0) + (2 : Int32)) / (3 : Int32)) - (1 : Int32)) >>> ((1 : Int32) &&& 31))) ||| (((((((4 : Int32) * p0) + (2 : Int32)) / (3 : Int32)) - (1 : Int32)) ||| ((((((4 : Int32) * p0) + (2 : Int32)) / (3 : Int32)) - (1 : Int32)) >>> ((1 : Int32) &&& 31))) >>> ((2 : Int32) &&& 31))) ||| ((((((((4 : Int32) * p0) + (2 : Int32)) / (3 : Int32)) - (1 : Int32)) ||| ((((((4 : Int32) * p0) + (2 : Int32)) / (3 : Int32)) - (1 : Int32)) >>> ((1 : Int32) &&& 31))) ||| (((((((4 : Int32) * p0) + (2 : Int32)) / (3 : Int32)) - (1 : Int32)) ||| ((((((4 : Int32) * p0) + (2 : Int32)) / (3 : Int32)) - (1 : Int32)) >>> ((1 : Int32) &&& 31))) >>> ((2 : Int32) &&& 31))) >>> ((4 : Int32) &&& 31))) >>> ((8 : Int32) &&& 31)))), (.int (((((((((4 : Int32) * p0) + (2 : Int32)) / (3 : Int32)) - (1 : Int32)) ||| ((((((4 : Int32) * p0) + (2 : Int32)) / (3 : Int32)) - (1 : Int32)) >>> ((1 : Int32) &&& 31))) ||| (((((((4 : Int32) * p0) + (2 : Int32)) / (3 : Int32)) - (1 : Int32)) ||| ((((((4 : Int32) * p0) + (2 : Int32)) / (3 : Int32)) - (1 : Int32)) >>> ((1 : Int32) &&& 31))) >>> ((2 : Int32) &&& 31))) ||| ((((((((4 : Int32) * p0) + (2 : Int32)) / (3 : Int32)) - (1 : Int32)) ||| ((((((4 : Int32) * p0) + (2 : Int32)) / (3 : Int32)) - (1 : Int32)) >>> ((1 : Int32) &&& 31))) ||| (((((((4 : Int32) * p0) + (2 : Int32)) / (3 : Int32)) - (1 : Int32)) ||| ((((((4 : Int32) * p0) + (2 : Int32)) / (3 : Int32)) - (1 : Int32)) >>> ((1 : Int32) &&& 31))) >>> ((2 : Int32) &&& 31))) >>> ((4 : Int32) &&& 31))) ||| (((((((((4 : Int32) * p0) + (2 : Int32)) / (3 : Int32)) - (1 : Int32)) ||| ((((((4 : Int32) * p0) + (2 : Int32)) / (3 : Int32)) - (1 : Int32)) >>> ((1 : Int32) &&& 31))) ||| (((((((4 : Int32) * p0) + (2 : Int32)) / (3 : Int32)) - (1 : Int32)) ||| ((((((4 : Int32) * p0) + (2 : Int32)) / (3 : Int32)) - (1 : Int32)) >>> ((1 : Int32) &&& 31))) >>> ((2 : Int32) &&& 31))) ||| ((((((((4 : Int32) * p0) + (2 : Int32)) / (3 : Int32)) - (1 : Int32)) ||| ((((((4 : Int32) * p0) + (2 : Int32)) / (3 : Int32)) - (1 : Int32)) >>> ((1 : Int32) &&& 31))) ||| (((((((4 : Int32) * p0) + (2 : Int32)) / (3 : Int32)) - (1 : Int32)) ||| ((((((4 : Int32) * p0) + (2 : Int32)) / (3 : Int32)) - (1 : Int32)) >>> ((1 : Int32) &&& 31))) >>> ((2 : Int32) &&& 31))) >>> ((4 : Int32) &&& 31))) >>> ((8 : Int32) &&& 31))))]))
    refine own_st (fun _ => XS.ishr X0.here hx rfl (hb hby own_dexp_47) rfl) ?_
    show own_End p e below P (s₁.setTop (mkF m 48 #[.val (.int p0), .val (.int ((((4 : Int32) * p0) + (2 : Int32)) / (3 : Int32))), .val (.int (((((((((4 : Int32) * p0) + (2 : Int32)) / (3 : Int32)) - (1 : Int32)) ||| ((((((4 : Int32) * p0) + (2 : Int32)) / (3 : Int32)) - (1 : Int32)) >>> ((1 : Int32) &&& 31))) ||| (((((((4 : Int32) * p0) + (2 : Int32)) / (3 : Int32)) - (1 : Int32)) ||| ((((((4 : Int32) * p0) + (2 : Int32)) / (3 : Int32)) - (1 : Int32)) >>> ((1 : Int32) &&& 31))) >>> ((2 : Int32) &&& 31))) ||| ((((((((4 : Int32) * p0) + (2 : Int32)) / (3 : Int32)) - (1 : Int32)) ||| ((((((4 : Int32) * p0) + (2 : Int32)) / (3 : Int32)) - (1 : Int32)) >>> ((1 : Int32) &&& 31))) ||| (((((((4 : Int32) * p0) + (2 : Int32)) / (3 : Int32)) - (1 : Int32)) ||| ((((((4 : Int32) * p0) + (2 : Int32)) / (3 : Int32)) - (1 : Int32)) >>> ((1 : Int32) &&& 31))) >>> ((2 : Int32) &&& 31))) >>> ((4 : Int32) &&& 31))) ||| (((((((((4 : Int32) * p0) + (2 : Int32)) / (3 : Int32)) - (1 : Int32)) ||| ((((((4 : Int32) * p0) + (2 : Int32)) / (3 : Int32)) - (1 : Int32)) >>> ((1 : Int32) &&& 31))) ||| (((((((4 : Int32) * p0) + (2 : Int32)) / (3 : Int32)) - (1 : Int32)) ||| ((((((4 : Int32) * p0) + (2 : Int32)) / (3 : Int32)) - (1 : Int32)) >>> ((1 : Int32) &&& 31))) >>> ((2 : Int32) &&& 31))) ||| ((((((((4 : Int32) * p0) + (2 : Int32)) / (3 : Int32)) - (1 : Int32)) ||| ((((((4 : Int32) * p0) + (2 : Int32)) / (3 : Int32)) - (1 : Int32)) >>> ((1 : Int32) &&& 31))) ||| (((((((4 : Int32) * p0) + (2 : Int32)) / (3 : Int32)) - (1 : Int32)) ||| ((((((4 : Int32) * p0) + (2 : Int32)) / (3 : Int32)) - (1 : Int32)) >>> ((1 : Int32) &&& 31))) >>> ((2 : Int32) &&& 31))) >>> ((4 : Int32) &&& 31))) >>> ((8 : Int32) &&& 31)))), .unset] [(.int ((((((((((4 : Int32) * p0) + (2 : Int32)) / (3 : Int32)) - (1 : Int32)) ||| ((((((4 : Int32) * p0) + (2 : Int32)) / (3 : Int32)) - (1 : Int32)) >>> ((1 : Int32) &&& 31))) ||| (((((((4 : Int32) * p0) + (2 : Int32)) / (3 : Int32)) - (1 : Int32)) ||| ((((((4 : Int32) * p0) + (2 : Int32)) / (3 : Int32)) - (1 : Int32)) >>> ((1 : Int32) &&& 31))) >>> ((2 : Int32) &&& 31))) ||| ((((((((4 : Int32) * p0) + (2 : Int32)) / (3 : Int32)) - (1 : Int32)) ||| ((((((4 : Int32) * p0) + (2 : Int32)) / (3 : Int32)) - (1 : Int32)) >>> ((1 : Int32) &&& 31))) ||| (((((((4 : Int32) * p0) + (2 : Int32)) / (3 : Int32)) - (1 : Int32)) ||| ((((((4 : Int32) * p0) + (2 : Int32)) / (3 : Int32)) - (1 : Int32)) >>> ((1 : Int32) &&& 31))) >>> ((2 : Int32) &&& 31))) >>> ((4 : Int32) &&& 31))) ||| (((((((((4 : Int32) * p0) + (2 : Int32)) / (3 : Int32)) - (1 : Int32)) ||| ((((((4 : Int32) * p0) + (2 : Int32)) / (3 : Int32)) - (1 : Int32)) >>> ((1 : Int32) &&& 31))) ||| (((((((4 : Int32) * p0) + (2 : Int32)) / (3 : Int32)) - (1 : Int32)) ||| ((((((4 : Int32) * p0) + (2 : Int32)) / (3 : Int32)) - (1 : Int32)) >>> ((1 : Int32) &&& 31))) >>> ((2 : Int32) &&& 31))) ||| ((((((((4 : Int32) * p0) + (2 : Int32)) / (3 : Int32)) - (1 : Int32)) ||| ((((((4 : Int32) * p0) + (2 : Int32)) / (3 : Int32)) - (1 : Int32)) >>> ((1 : Int32) &&& 31))) ||| (((((((4 : Int32) * p0) + (2 : Int32)) / (3 : Int32)) - (1 : Int32)) ||| ((((((4 : Int32) * p0) + (2 : Int32)) / (3 : Int32)) - (1 : Int32)) >>> ((1 : Int32) &&& 31))) >>> ((2 : Int32) &&& 31))) >>> ((4 : Int32) &&& 31))) >>> ((8 : Int32) &&& 31))) >>> ((16 : Int32) &&& 31))), (.int (((((((((4 : Int32) * p0) + (2 : Int32)) / (3 : Int32)) - (1 : Int32)) ||| ((((((4 : Int32) * p0) + (2 : Int32)) / (3 : Int32)) - (1 : Int32)) >>> ((1 : Int32) &&& 31))) ||| (((((((4 : Int32) * p0) + (2 : Int32)) / (3 : Int32)) - (1 : Int32)) ||| ((((((4 : Int32) * p0) + (2 : Int32)) / (3 : Int32)) - (1 : Int32)) >>> ((1 : Int32) &&& 31))) >>> ((2 : Int32) &&& 31))) ||| ((((((((4 : Int32) * p0) + (2 : Int32)) / (3 : Int32)) - (1 : Int32)) ||| ((((((4 : Int32) * p0) + (2 : Int32)) / (3 : Int32)) - (1 : Int32)) >>> ((1 : Int32) &&& 31))) ||| (((((((4 : Int32) * p0) + (2 : Int32)) / (3 : Int32)) - (1 : Int32)) ||| ((((((4 : Int32) * p0) + (2 : Int32)) / (3 : Int32)) - (1 : Int32)) >>> ((1 : Int32) &&& 31))) >>> ((2 : Int32) &&& 31))) >>> ((4 : Int32) &&& 31))) ||| (((((((((4 : Int32) * p0) + (2 : Int32)) / (3 : Int32)) - (1 : Int32)) ||| ((((((4 : Int32) * p0) + (2 : Int32)) / (3 : Int32)) - (1 : Int32)) >>> ((1 : Int32) &&& 31))) ||| (((((((4 : Int32) * p0) + (2 : Int32)) / (3 : Int32)) - (1 : Int32)) ||| ((((((4 : Int32) * p0) + (2 : Int32)) / (3 : Int32)) - (1 : Int32)) >>> ((1 : Int32) &&& 31))) >>> ((2 : Int32) &&& 31))) ||| ((((((((4 : Int32) * p0) + (2 : Int32)) / (3 : Int32)) - (1 : Int32)) ||| ((((((4 : Int32) * p0) + (2 : Int32)) / (3 : Int32)) - (1 : Int32)) >>> ((1 : Int32) &&& 31))) ||| (((((((4 : Int32) * p0) + (2 : Int32)) / (3 : Int32)) - (1 : Int32)) ||| ((((((4 : Int32) * p0) + (2 : Int32)) / (3 : Int32)) - (1 : Int32)) >>> ((1 : Int32) &&& 31))) >>> ((2 : Int32) &&& 31))) >>> ((4 : Int32) &&& 31))) >>> ((8 : Int32) &&& 31))))]))
    refine own_st (fun _ => XS.ior X0.here hx rfl (hb hby own_dexp_48) rfl) ?_
    show own_End p e below P (s₁.setTop (mkF m 49 #[.val (.int p0), .val (.int ((((4 : Int32) * p0) + (2 : Int32)) / (3 : Int32))), .val (.int (((((((((4 : Int32) * p0) + (2 : Int32)) / (3 : Int32)) - (1 : Int32)) ||| ((((((4 : Int32) * p0) + (2 : Int32)) / (3 : Int32)) - (1 : Int32)) >>> ((1 : Int32) &&& 31))) ||| (((((((4 : Int32) * p0) + (2 : Int32)) / (3 : Int32)) - (1 : Int32)) ||| ((((((4 : Int32) * p0) + (2 : Int32)) / (3 : Int32)) - (1 : Int32)) >>> ((1 : Int32) &&& 31))) >>> ((2 : Int32) &&& 31))) ||| ((((((((4 : Int32) * p0) + (2 : Int32)) / (3 : Int32)) - (1 : Int32)) ||| ((((((4 : Int32) * p0) + (2 : Int32)) / (3 : Int32)) - (1 : Int32)) >>> ((1 : Int32) &&& 31))) ||| (((((((4 : Int32) * p0) + (2 : Int32)) / (3 : Int32)) - (1 : Int32)) ||| ((((((4 : Int32) * p0) + (2 : Int32)) / (3 : Int32)) - (1 : Int32)) >>> ((1 : Int32) &&& 31))) >>> ((2 : Int32) &&& 31))) >>> ((4 : Int32) &&& 31))) ||| (((((((((4 : Int32) * p0) + (2 : Int32)) / (3 : Int32)) - (1 : Int32)) ||| ((((((4 : Int32) * p0) + (2 : Int32)) / (3 : Int32)) - (1 : Int32)) >>> ((1 : Int32) &&& 31))) ||| (((((((4 : Int32) * p0) + (2 : Int32)) / (3 : Int32)) - (1 : Int32)) ||| ((((((4 : Int32) * p0) + (2 : Int32)) / (3 : Int32)) - (1 : Int32)) >>> ((1 : Int32) &&& 31))) >>> ((2 : Int32) &&& 31))) ||| ((((((((4 : Int32) * p0) + (2 : Int32)) / (3 : Int32)) - (1 : Int32)) ||| ((((((4 : Int32) * p0) + (2 : Int32)) / (3 : Int32)) - (1 : Int32)) >>> ((1 : Int32) &&& 31))) ||| (((((((4 : Int32) * p0) + (2 : Int32)) / (3 : Int32)) - (1 : Int32)) ||| ((((((4 : Int32) * p0) + (2 : Int32)) / (3 : Int32)) - (1 : Int32)) >>> ((1 : Int32) &&& 31))) >>> ((2 : Int32) &&& 31))) >>> ((4 : Int32) &&& 31))) >>> ((8 : Int32) &&& 31)))), .unset] [(.int ((((((((((4 : Int32) * p0) + (2 : Int32)) / (3 : Int32)) - (1 : Int32)) ||| ((((((4 : Int32) * p0) + (2 : Int32)) / (3 : Int32)) - (1 : Int32)) >>> ((1 : Int32) &&& 31))) ||| (((((((4 : Int32) * p0) + (2 : Int32)) / (3 : Int32)) - (1 : Int32)) ||| ((((((4 : Int32) * p0) + (2 : Int32)) / (3 : Int32)) - (1 : Int32)) >>> ((1 : Int32) &&& 31))) >>> ((2 : Int32) &&& 31))) ||| ((((((((4 : Int32) * p0) + (2 : Int32)) / (3 : Int32)) - (1 : Int32)) ||| ((((((4 : Int32) * p0) + (2 : Int32)) / (3 : Int32)) - (1 : Int32)) >>> ((1 : Int32) &&& 31))) ||| (((((((4 : Int32) * p0) + (2 : Int32)) / (3 : Int32)) - (1 : Int32)) ||| ((((((4 : Int32) * p0) + (2 : Int32)) / (3 : Int32)) - (1 : Int32)) >>> ((1 : Int32) &&& 31))) >>> ((2 : Int32) &&& 31))) >>> ((4 : Int32) &&& 31))) ||| (((((((((4 : Int32) * p0) + (2 : Int32)) / (3 : Int32)) - (1 : Int32)) ||| ((((((4 : Int32) * p0) + (2 : Int32)) / (3 : Int32)) - (1 : Int32)) >>> ((1 : Int32) &&& 31))) ||| (((((((4 : Int32) * p0) + (2 : Int32)) / (3 : Int32)) - (1 : Int32)) ||| ((((((4 : Int32) * p0) + (2 : Int32)) / (3 : Int32)) - (1 : Int32)) >>> ((1 : Int32) &&& 31))) >>> ((2 : Int32) &&& 31))) ||| ((((((((4 : Int32) * p0) + (2 : Int32)) / (3 : Int32)) - (1 : Int32)) ||| ((((((4 : Int32) * p0) + (2 : Int32)) / (3 : Int32)) - (1 : Int32)) >>> ((1 : Int32) &&& 31))) ||| (((((((4 : Int32) * p0) + (2 : Int32)) / (3 : Int32)) - (1 : Int32)) ||| ((((((4 : Int32) * p0) + (2 : Int32)) / (3 : Int32)) - (1 : Int32)) >>> ((1 : Int32) &&& 31))) >>> ((2 : Int32) &&& 31))) >>> ((4 : Int32) &&& 31))) >>> ((8 : Int32) &&& 31))) ||| ((((((((((4 : Int32) * p0) + (2 : Int32)) / (3 : Int32)) - (1 : Int32)) ||| ((((((4 : Int32) * p0) + (2 : Int32)) / (3 : Int32)) - (1 : Int32)) >>> ((1 : Int32) &&& 31))) ||| (((((((4 : Int32) * p0) + (2 : Int32)) / (3 : Int32)) - (1 : Int32)) ||| ((((((4 : Int32) * p0) + (2 : Int32)) / (3 : Int32)) - (1 : Int32)) >>> ((1 : Int32) &&& 31))) >>> ((2 : Int32) &&& 31))) ||| ((((((((4 : Int32) * p0) + (2 : Int32)) / (3 : Int32)) - (1 : Int32)) ||| ((((((4 : Int32) * p0) + (2 : Int32)) / (3 : Int32)) - (1 : Int32)) >>> ((1 : Int32) &&& 31))) ||| (((((((4 : Int32) * p0) + (2 : Int32)) / (3 : Int32)) - (1 : Int32)) ||| ((((((4 : Int32) * p0) + (2 : Int32)) / (3 : Int32)) - (1 : Int32)) >>> ((1 : Int32) &&& 31))) >>> ((2 : Int32) &&& 31))) >>> ((4 : Int32) &&& 31))) ||| (((((((((4 : Int32) * p0) + (2 : Int32)) / (3 : Int32)) - (1 : Int32)) ||| ((((((4 : Int32) * p0) + (2 : Int32)) / (3 : Int32)) - (1 : Int32)) >>> ((1 : Int32) &&& 31))) ||| (((((((4 : Int32) * p0) + (2 : Int32)) / (3 : Int32)) - (1 : Int32)) ||| ((((((4 : Int32) * p0) + (2 : Int32)) / (3 : Int32)) - (1 : Int32)) >>> ((1 : Int32) &&& 31))) >>> ((2 : Int32) &&& 31))) ||| ((((((((4 : Int32) * p0) + (2 : Int32)) / (3 : Int32)) - (1 : Int32)) ||| ((((((4 : Int32) * p0) + (2 : Int32)) / (3 : Int32)) - (1 : Int32)) >>> ((1 : Int32) &&& 31))) ||| (((((((4 : Int32) * p0) + (2 : Int32)) / (3 : Int32)) - (1 : Int32)) ||| ((((((4 : Int32) * p0) + (2 : Int32)) / (3 : Int32)) - (1 : Int32)) >>> ((1 : Int32) &&& 31))) >>> ((2 : Int32) &&& 31))) >>> ((4 : Int32) &&& 31))) >>> ((8 : Int32) &&& 31))) >>> ((16 : Int32) &&& 31))))]))
    refine own_st (fun _ => XS.istoreN X0.here hx rfl (hb hby own_dexp_49) rfl (l' := #[.val (.int p0), .val (.int ((((4 : Int32) * p0) + (2 : Int32)) / (3 : Int32))), .val (.int ((((((((((4 : Int32) * p0) + (2 : Int32)) / (3 : Int32)) - (1 : Int32)) ||| ((((((4 : Int32) * p0) + (2 : Int32)) / (3 : Int32)) - (1 : Int32)) >>> ((1 : Int32) &&& 31))) ||| (((((((4 : Int32) * p0) + (2 : Int32)) / (3 : Int32)) - (1 : Int32)) ||| ((((((4 : Int32) * p0) + (2 : Int32)) / (3 : Int32)) - (1 : Int32)) >>> ((1 : Int32) &&& 31))) >>> ((2 : Int32) &&& 31))) ||| ((((((((4 : Int32) * p0) + (2 : Int32)) / (3 : Int32)) - (1 : Int32)) ||| ((((((4 : Int32) * p0) + (2 : Int32)) / (3 : Int32)) - (1 : Int32)) >>> ((1 : Int32) &&& 31))) ||| (((((((4 : Int32) * p0) + (2 : Int32)) / (3 : Int32)) - (1 : Int32)) ||| ((((((4 : Int32) * p0) + (2 : Int32)) / (3 : Int32)) - (1 : Int32)) >>> ((1 : Int32) &&& 31))) >>> ((2 : Int32) &&& 31))) >>> ((4 : Int32) &&& 31))) ||| (((((((((4 : Int32) * p0) + (2 : Int32)) / (3 : Int32)) - (1 : Int32)) ||| ((((((4 : Int32) * p0) + (2 : Int32)) / (3 : Int32)) - (1 : Int32)) >>> ((1 : Int32) &&& 31))) ||| (((((((4 : Int32) * p0) + (2 : Int32)) / (3 : Int32)) - (1 : Int32)) ||| ((((((4 : Int32) * p0) + (2 : Int32)) / (3 : Int32)) - (1 : Int32)) >>> ((1 : Int32) &&& 31))) >>> ((2 : Int32) &&& 31))) ||| ((((((((4 : Int32) * p0) + (2 : Int32)) / (3 : Int32)) - (1 : Int32)) ||| ((((((4 : Int32) * p0) + (2 : Int32)) / (3 : Int32)) - (1 : Int32)) >>> ((1 : Int32) &&& 31))) ||| (((((((4 : Int32) * p0) + (2 : Int32)) / (3 : Int32)) - (1 : Int32)) ||| ((((((4 : Int32) * p0) + (2 : Int32)) / (3 : Int32)) - (1 : Int32)) >>> ((1 : Int32) &&& 31))) >>> ((2 : Int32) &&& 31))) >>> ((4 : Int32) &&& 31))) >>> ((8 : Int32) &&& 31))) ||| ((((((((((4 : Int32) * p0) + (2 : Int32)) / (3 : Int32)) - (1 : Int32)) ||| ((((((4 : Int32) * p0) + (2 : Int32)) / (3 : Int32)) - (1 : Int32)) >>> ((1 : Int32) &&& 31))) ||| (((((((4 : Int32) * p0) + (2 : Int32)) / (3 : Int32)) - (1 : Int32)) ||| ((((((4 : Int32) * p0) + (2 : Int32)) / (3 : Int32)) - (1 : Int32)) >>> ((1 : Int32) &&& 31))) >>> ((2 : Int32) &&& 31))) ||| ((((((((4 : Int32) * p0) + (2 : Int32)) / (3 : Int32)) - (1 : Int32)) ||| ((((((4 : Int32) * p0) + (2 : Int32)) / (3 : Int32)) - (1 : Int32)) >>> ((1 : Int32) &&& 31))) ||| (((((((4 : Int32) * p0) + (2 : Int32)) / (3 : Int32)) - (1 : Int32)) ||| ((((((4 : Int32) * p0) + (2 : Int32)) / (3 : Int32)) - (1 : Int32)) >>> ((1 : Int32) &&& 31))) >>> ((2 : Int32) &&& 31))) >>> ((4 : Int32) &&& 31))) ||| (((((((((4 : Int32) * p0) + (2 : Int32)) / (3 : Int32)) - (1 : Int32)) ||| ((((((4 : Int32) * p0) + (2 : Int32)) / (3 : Int32)) - (1 : Int32)) >>> ((1 : Int32) &&& 31))) ||| (((((((4 : Int32) * p0) + (2 : Int32)) / (3 : Int32)) - (1 : Int32)) ||| ((((((4 : Int32) * p0) + (2 : Int32)) / (3 : Int32)) - (1 : Int32)) >>> ((1 : Int32) &&& 31))) >>> ((2 : Int32) &&& 31))) ||| ((((((((4 : Int32) * p0) + (2 : Int32)) / (3 : Int32)) - (1 : Int32)) ||| ((((((4 : Int32) * p0) + (2 : Int32)) / (3 : Int32)) - (1 : Int32)) >>> ((1 : Int32) &&& 31))) ||| (((((((4 : Int32) * p0) + (2 : Int32)) / (3 : Int32)) - (1 : Int32)) ||| ((((((4 : Int32) * p0) + (2 : Int32)) / (3 : Int32)) - (1 : Int32)) >>> ((1 : Int32) &&& 31))) >>> ((2 : Int32) &&& 31))) >>> ((4 : Int32) &&& 31))) >>> ((8 : Int32) &&& 31))) >>> ((16 : Int32) &&& 31)))), .unset]) rfl) ?_
    show own_End p e below P (s₁.setTop (mkF m 50 #[.val (.int p0), .val (.int ((((4 : Int32) * p0) + (2 : Int32)) / (3 : Int32))), .val (.int ((((((((((4 : Int32) * p0) + (2 : Int32)) / (3 : Int32)) - (1 : Int32)) ||| ((((((4 : Int32) * p0) + (2 : Int32)) / (3 : Int32)) - (1 : Int32)) >>> ((1 : Int32) &&& 31))) ||| (((((((4 : Int32) * p0) + (2 : Int32)) / (3 : Int32)) - (1 : Int32)) ||| ((((((4 : Int32) * p0) + (2 : Int32)) / (3 : Int32)) - (1 : Int32)) >>> ((1 : Int32) &&& 31))) >>> ((2 : Int32) &&& 31))) ||| ((((((((4 : Int32) * p0) + (2 : Int32)) / (3 : Int32)) - (1 : Int32)) ||| ((((((4 : Int32) * p0) + (2 : Int32)) / (3 : Int32)) - (1 : Int32)) >>> ((1 : Int32) &&& 31))) ||| (((((((4 : Int32) * p0) + (2 : Int32)) / (3 : Int32)) - (1 : Int32)) ||| ((((((4 : Int32) * p0) + (2 : Int32)) / (3 : Int32)) - (1 : Int32)) >>> ((1 : Int32) &&& 31))) >>> ((2 : Int32) &&& 31))) >>> ((4 : Int32) &&& 31))) ||| (((((((((4 : Int32) * p0) + (2 : Int32)) / (3 : Int32)) - (1 : Int32)) ||| ((((((4 : Int32) * p0) + (2 : Int32)) / (3 : Int32)) - (1 : Int32)) >>> ((1 : Int32) &&& 31))) ||| (((((((4 : Int32) * p0) + (2 : Int32)) / (3 : Int32)) - (1 : Int32)) ||| ((((((4 : Int32) * p0) + (2 : Int32)) / (3 : Int32)) - (1 : Int32)) >>> ((1 : Int32) &&& 31))) >>> ((2 : Int32) &&& 31))) ||| ((((((((4 : Int32) * p0) + (2 : Int32)) / (3 : Int32)) - (1 : Int32)) ||| ((((((4 : Int32) * p0) + (2 : Int32)) / (3 : Int32)) - (1 : Int32)) >>> ((1 : Int32) &&& 31))) ||| (((((((4 : Int32) * p0) + (2 : Int32)) / (3 : Int32)) - (1 : Int32)) ||| ((((((4 : Int32) * p0) + (2 : Int32)) / (3 : Int32)) - (1 : Int32)) >>> ((1 : Int32) &&& 31))) >>> ((2 : Int32) &&& 31))) >>> ((4 : Int32) &&& 31))) >>> ((8 : Int32) &&& 31))) ||| ((((((((((4 : Int32) * p0) + (2 : Int32)) / (3 : Int32)) - (1 : Int32)) ||| ((((((4 : Int32) * p0) + (2 : Int32)) / (3 : Int32)) - (1 : Int32)) >>> ((1 : Int32) &&& 31))) ||| (((((((4 : Int32) * p0) + (2 : Int32)) / (3 : Int32)) - (1 : Int32)) ||| ((((((4 : Int32) * p0) + (2 : Int32)) / (3 : Int32)) - (1 : Int32)) >>> ((1 : Int32) &&& 31))) >>> ((2 : Int32) &&& 31))) ||| ((((((((4 : Int32) * p0) + (2 : Int32)) / (3 : Int32)) - (1 : Int32)) ||| ((((((4 : Int32) * p0) + (2 : Int32)) / (3 : Int32)) - (1 : Int32)) >>> ((1 : Int32) &&& 31))) ||| (((((((4 : Int32) * p0) + (2 : Int32)) / (3 : Int32)) - (1 : Int32)) ||| ((((((4 : Int32) * p0) + (2 : Int32)) / (3 : Int32)) - (1 : Int32)) >>> ((1 : Int32) &&& 31))) >>> ((2 : Int32) &&& 31))) >>> ((4 : Int32) &&& 31))) ||| (((((((((4 : Int32) * p0) + (2 : Int32)) / (3 : Int32)) - (1 : Int32)) ||| ((((((4 : Int32) * p0) + (2 : Int32)) / (3 : Int32)) - (1 : Int32)) >>> ((1 : Int32) &&& 31))) ||| (((((((4 : Int32) * p0) + (2 : Int32)) / (3 : Int32)) - (1 : Int32)) ||| ((((((4 : Int32) * p0) + (2 : Int32)) / (3 : Int32)) - (1 : Int32)) >>> ((1 : Int32) &&& 31))) >>> ((2 : Int32) &&& 31))) ||| ((((((((4 : Int32) * p0) + (2 : Int32)) / (3 : Int32)) - (1 : Int32)) ||| ((((((4 : Int32) * p0) + (2 : Int32)) / (3 : Int32)) - (1 : Int32)) >>> ((1 : Int32) &&& 31))) ||| (((((((4 : Int32) * p0) + (2 : Int32)) / (3 : Int32)) - (1 : Int32)) ||| ((((((4 : Int32) * p0) + (2 : Int32)) / (3 : Int32)) - (1 : Int32)) >>> ((1 : Int32) &&& 31))) >>> ((2 : Int32) &&& 31))) >>> ((4 : Int32) &&& 31))) >>> ((8 : Int32) &&& 31))) >>> ((16 : Int32) &&& 31)))), .unset] []))
    refine own_st (fun _ => XS.iloadN X0.here hx rfl (hb hby own_dexp_50) rfl) ?_
    show own_End p e below P (s₁.setTop (mkF m 51 #[.val (.int p0), .val (.int ((((4 : Int32) * p0) + (2 : Int32)) / (3 : Int32))), .val (.int ((((((((((4 : Int32) * p0) + (2 : Int32)) / (3 : Int32)) - (1 : Int32)) ||| ((((((4 : Int32) * p0) + (2 : Int32)) / (3 : Int32)) - (1 : Int32)) >>> ((1 : Int32) &&& 31))) ||| (((((((4 : Int32) * p0) + (2 : Int32)) / (3 : Int32)) - (1 : Int32)) ||| ((((((4 : Int32) * p0) + (2 : Int32)) / (3 : Int32)) - (1 : Int32)) >>> ((1 : Int32) &&& 31))) >>> ((2 : Int32) &&& 31))) ||| ((((((((4 : Int32) * p0) + (2 : Int32)) / (3 : Int32)) - (1 : Int32)) ||| ((((((4 : Int32) * p0) + (2 : Int32)) / (3 : Int32)) - (1 : Int32)) >>> ((1 : Int32) &&& 31))) ||| (((((((4 : Int32) * p0) + (2 : Int32)) / (3 : Int32)) - (1 : Int32)) ||| ((((((4 : Int32) * p0) + (2 : Int32)) / (3 : Int32)) - (1 : Int32)) >>> ((1 : Int32) &&& 31))) >>> ((2 : Int32) &&& 31))) >>> ((4 : Int32) &&& 31))) ||| (((((((((4 : Int32) * p0) + (2 : Int32)) / (3 : Int32)) - (1 : Int32)) ||| ((((((4 : Int32) * p0) + (2 : Int32)) / (3 : Int32)) - (1 : Int32)) >>> ((1 : Int32) &&& 31))) ||| (((((((4 : Int32) * p0) + (2 : Int32)) / (3 : Int32)) - (1 : Int32)) ||| ((((((4 : Int32) * p0) + (2 : Int32)) / (3 : Int32)) - (1 : Int32)) >>> ((1 : Int32) &&& 31))) >>> ((2 : Int32) &&& 31))) ||| ((((((((4 : Int32) * p0) + (2 : Int32)) / (3 : Int32)) - (1 : Int32)) ||| ((((((4 : Int32) * p0) + (2 : Int32)) / (3 : Int32)) - (1 : Int32)) >>> ((1 : Int32) &&& 31))) ||| (((((((4 : Int32) * p0) + (2 : Int32)) / (3 : Int32)) - (1 : Int32)) ||| ((((((4 : Int32) * p0) + (2 : Int32)) / (3 : Int32)) - (1 : Int32)) >>> ((1 : Int32) &&& 31))) >>> ((2 : Int32) &&& 31))) >>> ((4 : Int32) &&& 31))) >>> ((8 : Int32) &&& 31))) ||| ((((((((((4 : Int32) * p0) + (2 : Int32)) / (3 : Int32)) - (1 : Int32)) ||| ((((((4 : Int32) * p0) + (2 : Int32)) / (3 : Int32)) - (1 : Int32)) >>> ((1 : Int32) &&& 31))) ||| (((((((4 : Int32) * p0) + (2 : Int32)) / (3 : Int32)) - (1 : Int32)) ||| ((((((4 : Int32) * p0) + (2 : Int32)) / (3 : Int32)) - (1 : Int32)) >>> ((1 : Int32) &&& 31))) >>> ((2 : Int32) &&& 31))) ||| ((((((((4 : Int32) * p0) + (2 : Int32)) / (3 : Int32)) - (1 : Int32)) ||| ((((((4 : Int32) * p0) + (2 : Int32)) / (3 : Int32)) - (1 : Int32)) >>> ((1 : Int32) &&& 31))) ||| (((((((4 : Int32) * p0) + (2 : Int32)) / (3 : Int32)) - (1 : Int32)) ||| ((((((4 : Int32) * p0) + (2 : Int32)) / (3 : Int32)) - (1 : Int32)) >>> ((1 : Int32) &&& 31))) >>> ((2 : Int32) &&& 31))) >>> ((4 : Int32) &&& 31))) ||| (((((((((4 : Int32) * p0) + (2 : Int32)) / (3 : Int32)) - (1 : Int32)) ||| ((((((4 : Int32) * p0) + (2 : Int32)) / (3 : Int32)) - (1 : Int32)) >>> ((1 : Int32) &&& 31))) ||| (((((((4 : Int32) * p0) + (2 : Int32)) / (3 : Int32)) - (1 : Int32)) ||| ((((((4 : Int32) * p0) + (2 : Int32)) / (3 : Int32)) - (1 : Int32)) >>> ((1 : Int32) &&& 31))) >>> ((2 : Int32) &&& 31))) ||| ((((((((4 : Int32) * p0) + (2 : Int32)) / (3 : Int32)) - (1 : Int32)) ||| ((((((4 : Int32) * p0) + (2 : Int32)) / (3 : Int32)) - (1 : Int32)) >>> ((1 : Int32) &&& 31))) ||| (((((((4 : Int32) * p0) + (2 : Int32)) / (3 : Int32)) - (1 : Int32)) ||| ((((((4 : Int32) * p0) + (2 : Int32)) / (3 : Int32)) - (1 : Int32)) >>> ((1 : Int32) &&& 31))) >>> ((2 : Int32) &&& 31))) >>> ((4 : Int32) &&& 31))) >>> ((8 : Int32) &&& 31))) >>> ((16 : Int32) &&& 31)))), .unset] [(.int ((((((((((4 : Int32) * p0) + (2 : Int32)) / (3 : Int32)) - (1 : Int32)) ||| ((((((4 : Int32) * p0) + (2 : Int32)) / (3 : Int32)) - (1 : Int32)) >>> ((1 : Int32) &&& 31))) ||| (((((((4 : Int32) * p0) + (2 : Int32)) / (3 : Int32)) - (1 : Int32)) ||| ((((((4 : Int32) * p0) + (2 : Int32)) / (3 : Int32)) - (1 : Int32)) >>> ((1 : Int32) &&& 31))) >>> ((2 : Int32) &&& 31))) ||| ((((((((4 : Int32) * p0) + (2 : Int32)) / (3 : Int32)) - (1 : Int32)) ||| ((((((4 : Int32) * p0) + (2 : Int32)) / (3 : Int32)) - (1 : Int32)) >>> ((1 : Int32) &&& 31))) ||| (((((((4 : Int32) * p0) + (2 : Int32)) / (3 : Int32)) - (1 : Int32)) ||| ((((((4 : Int32) * p0) + (2 : Int32)) / (3 : Int32)) - (1 : Int32)) >>> ((1 : Int32) &&& 31))) >>> ((2 : Int32) &&& 31))) >>> ((4 : Int32) &&& 31))) ||| (((((((((4 : Int32) * p0) + (2 : Int32)) / (3 : Int32)) - (1 : Int32)) ||| ((((((4 : Int32) * p0) + (2 : Int32)) / (3 : Int32)) - (1 : Int32)) >>> ((1 : Int32) &&& 31))) ||| (((((((4 : Int32) * p0) + (2 : Int32)) / (3 : Int32)) - (1 : Int32)) ||| ((((((4 : Int32) * p0) + (2 : Int32)) / (3 : Int32)) - (1 : Int32)) >>> ((1 : Int32) &&& 31))) >>> ((2 : Int32) &&& 31))) ||| ((((((((4 : Int32) * p0) + (2 : Int32)) / (3 : Int32)) - (1 : Int32)) ||| ((((((4 : Int32) * p0) + (2 : Int32)) / (3 : Int32)) - (1 : Int32)) >>> ((1 : Int32) &&& 31))) ||| (((((((4 : Int32) * p0) + (2 : Int32)) / (3 : Int32)) - (1 : Int32)) ||| ((((((4 : Int32) * p0) + (2 : Int32)) / (3 : Int32)) - (1 : Int32)) >>> ((1 : Int32) &&& 31))) >>> ((2 : Int32) &&& 31))) >>> ((4 : Int32) &&& 31))) >>> ((8 : Int32) &&& 31))) ||| ((((((((((4 : Int32) * p0) + (2 : Int32)) / (3 : Int32)) - (1 : Int32)) ||| ((((((4 : Int32) * p0) + (2 : Int32)) / (3 : Int32)) - (1 : Int32)) >>> ((1 : Int32) &&& 31))) ||| (((((((4 : Int32) * p0) + (2 : Int32)) / (3 : Int32)) - (1 : Int32)) ||| ((((((4 : Int32) * p0) + (2 : Int32)) / (3 : Int32)) - (1 : Int32)) >>> ((1 : Int32) &&& 31))) >>> ((2 : Int32) &&& 31))) ||| ((((((((4 : Int32) * p0) + (2 : Int32)) / (3 : Int32)) - (1 : Int32)) ||| ((((((4 : Int32) * p0) + (2 : Int32)) / (3 : Int32)) - (1 : Int32)) >>> ((1 : Int32) &&& 31))) ||| (((((((4 : Int32) * p0) + (2 : Int32)) / (3 : Int32)) - (1 : Int32)) ||| ((((((4 : Int32) * p0) + (2 : Int32)) / (3 : Int32)) - (1 : Int32)) >>> ((1 : Int32) &&& 31))) >>> ((2 : Int32) &&& 31))) >>> ((4 : Int32) &&& 31))) ||| (((((((((4 : Int32) * p0) + (2 : Int32)) / (3 : Int32)) - (1 : Int32)) ||| ((((((4 : Int32) * p0) + (2 : Int32)) / (3 : Int32)) - (1 : Int32)) >>> ((1 : Int32) &&& 31))) ||| (((((((4 : Int32) * p0) + (2 : Int32)) / (3 : Int32)) - (1 : Int32)) ||| ((((((4 : Int32) * p0) + (2 : Int32)) / (3 : Int32)) - (1 : Int32)) >>> ((1 : Int32) &&& 31))) >>> ((2 : Int32) &&& 31))) ||| ((((((((4 : Int32) * p0) + (2 : Int32)) / (3 : Int32)) - (1 : Int32)) ||| ((((((4 : Int32) * p0) + (2 : Int32)) / (3 : Int32)) - (1 : Int32)) >>> ((1 : Int32) &&& 31))) ||| (((((((4 : Int32) * p0) + (2 : Int32)) / (3 : Int32)) - (1 : Int32)) ||| ((((((4 : Int32) * p0) + (2 : Int32)) / (3 : Int32)) - (1 : Int32)) >>> ((1 : Int32) &&& 31))) >>> ((2 : Int32) &&& 31))) >>> ((4 : Int32) &&& 31))) >>> ((8 : Int32) &&& 31))) >>> ((16 : Int32) &&& 31))))]))
    refine own_st (fun _ => XS.iconst X0.here hx rfl (hb hby own_dexp_51)) ?_
    show own_End p e below P (s₁.setTop (mkF m 52 #[.val (.int p0), .val (.int ((((4 : Int32) * p0) + (2 : Int32)) / (3 : Int32))), .val (.int ((((((((((4 : Int32) * p0) + (2 : Int32)) / (3 : Int32)) - (1 : Int32)) ||| ((((((4 : Int32) * p0) + (2 : Int32)) / (3 : Int32)) - (1 : Int32)) >>> ((1 : Int32) &&& 31))) ||| (((((((4 : Int32) * p0) + (2 : Int32)) / (3 : Int32)) - (1 : Int32)) ||| ((((((4 : Int32) * p0) + (2 : Int32)) / (3 : Int32)) - (1 : Int32)) >>> ((1 : Int32) &&& 31))) >>> ((2 : Int32) &&& 31))) ||| ((((((((4 : Int32) * p0) + (2 : Int32)) / (3 : Int32)) - (1 : Int32)) ||| ((((((4 : Int32) * p0) + (2 : Int32)) / (3 : Int32)) - (1 : Int32)) >>> ((1 : Int32) &&& 31))) ||| (((((((4 : Int32) * p0) + (2 : Int32)) / (3 : Int32)) - (1 : Int32)) ||| ((((((4 : Int32) * p0) + (2 : Int32)) / (3 : Int32)) - (1 : Int32)) >>> ((1 : Int32) &&& 31))) >>> ((2 : Int32) &&& 31))) >>> ((4 : Int32) &&& 31))) ||| (((((((((4 : Int32) * p0) + (2 : Int32)) / (3 : Int32)) - (1 : Int32)) ||| ((((((4 : Int32) * p0) + (2 : Int32)) / (3 : Int32)) - (1 : Int32)) >>> ((1 : Int32) &&& 31))) ||| (((((((4 : Int32) * p0) + (2 : Int32)) / (3 : Int32)) - (1 : Int32)) ||| ((((((4 : Int32) * p0) + (2 : Int32)) / (3 : Int32)) - (1 : Int32)) >>> ((1 : Int32) &&& 31))) >>> ((2 : Int32) &&& 31))) ||| ((((((((4 : Int32) * p0) + (2 : Int32)) / (3 : Int32)) - (1 : Int32)) ||| ((((((4 : Int32) * p0) + (2 : Int32)) / (3 : Int32)) - (1 : Int32)) >>> ((1 : Int32) &&& 31))) ||| (((((((4 : Int32) * p0) + (2 : Int32)) / (3 : Int32)) - (1 : Int32)) ||| ((((((4 : Int32) * p0) + (2 : Int32)) / (3 : Int32)) - (1 : Int32)) >>> ((1 : Int32) &&& 31))) >>> ((2 : Int32) &&& 31))) >>> ((4 : Int32) &&& 31))) >>> ((8 : Int32) &&& 31))) ||| ((((((((((4 : Int32) * p0) + (2 : Int32)) / (3 : Int32)) - (1 : Int32)) ||| ((((((4 : Int32) * p0) + (2 : Int32)) / (3 : Int32)) - (1 : Int32)) >>> ((1 : Int32) &&& 31))) ||| (((((((4 : Int32) * p0) + (2 : Int32)) / (3 : Int32)) - (1 : Int32)) ||| ((((((4 : Int32) * p0) + (2 : Int32)) / (3 : Int32)) - (1 : Int32)) >>> ((1 : Int32) &&& 31))) >>> ((2 : Int32) &&& 31))) ||| ((((((((4 : Int32) * p0) + (2 : Int32)) / (3 : Int32)) - (1 : Int32)) ||| ((((((4 : Int32) * p0) + (2 : Int32)) / (3 : Int32)) - (1 : Int32)) >>> ((1 : Int32) &&& 31))) ||| (((((((4 : Int32) * p0) + (2 : Int32)) / (3 : Int32)) - (1 : Int32)) ||| ((((((4 : Int32) * p0) + (2 : Int32)) / (3 : Int32)) - (1 : Int32)) >>> ((1 : Int32) &&& 31))) >>> ((2 : Int32) &&& 31))) >>> ((4 : Int32) &&& 31))) ||| (((((((((4 : Int32) * p0) + (2 : Int32)) / (3 : Int32)) - (1 : Int32)) ||| ((((((4 : Int32) * p0) + (2 : Int32)) / (3 : Int32)) - (1 : Int32)) >>> ((1 : Int32) &&& 31))) ||| (((((((4 : Int32) * p0) + (2 : Int32)) / (3 : Int32)) - (1 : Int32)) ||| ((((((4 : Int32) * p0) + (2 : Int32)) / (3 : Int32)) - (1 : Int32)) >>> ((1 : Int32) &&& 31))) >>> ((2 : Int32) &&& 31))) ||| ((((((((4 : Int32) * p0) + (2 : Int32)) / (3 : Int32)) - (1 : Int32)) ||| ((((((4 : Int32) * p0) + (2 : Int32)) / (3 : Int32)) - (1 : Int32)) >>> ((1 : Int32) &&& 31))) ||| (((((((4 : Int32) * p0) + (2 : Int32)) / (3 : Int32)) - (1 : Int32)) ||| ((((((4 : Int32) * p0) + (2 : Int32)) / (3 : Int32)) - (1 : Int32)) >>> ((1 : Int32) &&& 31))) >>> ((2 : Int32) &&& 31))) >>> ((4 : Int32) &&& 31))) >>> ((8 : Int32) &&& 31))) >>> ((16 : Int32) &&& 31)))), .unset] [(.int (1 : Int32)), (.int ((((((((((4 : Int32) * p0) + (2 : Int32)) / (3 : Int32)) - (1 : Int32)) ||| ((((((4 : Int32) * p0) + (2 : Int32)) / (3 : Int32)) - (1 : Int32)) >>> ((1 : Int32) &&& 31))) ||| (((((((4 : Int32) * p0) + (2 : Int32)) / (3 : Int32)) - (1 : Int32)) ||| ((((((4 : Int32) * p0) + (2 : Int32)) / (3 : Int32)) - (1 : Int32)) >>> ((1 : Int32) &&& 31))) >>> ((2 : Int32) &&& 31))) ||| ((((((((4 : Int32) * p0) + (2 : Int32)) / (3 : Int32)) - (1 : Int32)) ||| ((((((4 : Int32) * p0) + (2 : Int32)) / (3 : Int32)) - (1 : Int32)) >>> ((1 : Int32) &&& 31))) ||| (((((((4 : Int32) * p0) + (2 : Int32)) / (3 : Int32)) - (1 : Int32)) ||| ((((((4 : Int32) * p0) + (2 : Int32)) / (3 : Int32)) - (1 : Int32)) >>> ((1 : Int32) &&& 31))) >>> ((2 : Int32) &&& 31))) >>> ((4 : Int32) &&& 31))) ||| (((((((((4 : Int32) * p0) + (2 : Int32)) / (3 : Int32)) - (1 : Int32)) ||| ((((((4 : Int32) * p0) + (2 : Int32)) / (3 : Int32)) - (1 : Int32)) >>> ((1 : Int32) &&& 31))) ||| (((((((4 : Int32) * p0) + (2 : Int32)) / (3 : Int32)) - (1 : Int32)) ||| ((((((4 : Int32) * p0) + (2 : Int32)) / (3 : Int32)) - (1 : Int32)) >>> ((1 : Int32) &&& 31))) >>> ((2 : Int32) &&& 31))) ||| ((((((((4 : Int32) * p0) + (2 : Int32)) / (3 : Int32)) - (1 : Int32)) ||| ((((((4 : Int32) * p0) + (2 : Int32)) / (3 : Int32)) - (1 : Int32)) >>> ((1 : Int32) &&& 31))) ||| (((((((4 : Int32) * p0) + (2 : Int32)) / (3 : Int32)) - (1 : Int32)) ||| ((((((4 : Int32) * p0) + (2 : Int32)) / (3 : Int32)) - (1 : Int32)) >>> ((1 : Int32) &&& 31))) >>> ((2 : Int32) &&& 31))) >>> ((4 : Int32) &&& 31))) >>> ((8 : Int32) &&& 31))) ||| ((((((((((4 : Int32) * p0) + (2 : Int32)) / (3 : Int32)) - (1 : Int32)) ||| ((((((4 : Int32) * p0) + (2 : Int32)) / (3 : Int32)) - (1 : Int32)) >>> ((1 : Int32) &&& 31))) ||| (((((((4 : Int32) * p0) + (2 : Int32)) / (3 : Int32)) - (1 : Int32)) ||| ((((((4 : Int32) * p0) + (2 : Int32)) / (3 : Int32)) - (1 : Int32)) >>> ((1 : Int32) &&& 31))) >>> ((2 : Int32) &&& 31))) ||| ((((((((4 : Int32) * p0) + (2 : Int32)) / (3 : Int32)) - (1 : Int32)) ||| ((((((4 : Int32) * p0) + (2 : Int32)) / (3 : Int32)) - (1 : Int32)) >>> ((1 : Int32) &&& 31))) ||| (((((((4 : Int32) * p0) + (2 : Int32)) / (3 : Int32)) - (1 : Int32)) ||| ((((((4 : Int32) * p0) + (2 : Int32)) / (3 : Int32)) - (1 : Int32)) >>> ((1 : Int32) &&& 31))) >>> ((2 : Int32) &&& 31))) >>> ((4 : Int32) &&& 31))) ||| (((((((((4 : Int32) * p0) + (2 : Int32)) / (3 : Int32)) - (1 : Int32)) ||| ((((((4 : Int32) * p0) + (2 : Int32)) / (3 : Int32)) - (1 : Int32)) >>> ((1 : Int32) &&& 31))) ||| (((((((4 : Int32) * p0) + (2 : Int32)) / (3 : Int32)) - (1 : Int32)) ||| ((((((4 : Int32) * p0) + (2 : Int32)) / (3 : Int32)) - (1 : Int32)) >>> ((1 : Int32) &&& 31))) >>> ((2 : Int32) &&& 31))) ||| ((((((((4 : Int32) * p0) + (2 : Int32)) / (3 : Int32)) - (1 : Int32)) ||| ((((((4 : Int32) * p0) + (2 : Int32)) / (3 : Int32)) - (1 : Int32)) >>> ((1 : Int32) &&& 31))) ||| (((((((4 : Int32) * p0) + (2 : Int32)) / (3 : Int32)) - (1 : Int32)) ||| ((((((4 : Int32) * p0) + (2 : Int32)) / (3 : Int32)) - (1 : Int32)) >>> ((1 : Int32) &&& 31))) >>> ((2 : Int32) &&& 31))) >>> ((4 : Int32) &&& 31))) >>> ((8 : Int32) &&& 31))) >>> ((16 : Int32) &&& 31))))]))
    refine own_st (fun _ => XS.iadd X0.here hx rfl (hb hby own_dexp_52) rfl) ?_
    show own_End p e below P (s₁.setTop (mkF m 53 #[.val (.int p0), .val (.int ((((4 : Int32) * p0) + (2 : Int32)) / (3 : Int32))), .val (.int ((((((((((4 : Int32) * p0) + (2 : Int32)) / (3 : Int32)) - (1 : Int32)) ||| ((((((4 : Int32) * p0) + (2 : Int32)) / (3 : Int32)) - (1 : Int32)) >>> ((1 : Int32) &&& 31))) ||| (((((((4 : Int32) * p0) + (2 : Int32)) / (3 : Int32)) - (1 : Int32)) ||| ((((((4 : Int32) * p0) + (2 : Int32)) / (3 : Int32)) - (1 : Int32)) >>> ((1 : Int32) &&& 31))) >>> ((2 : Int32) &&& 31))) ||| ((((((((4 : Int32) * p0) + (2 : Int32)) / (3 : Int32)) - (1 : Int32)) ||| ((((((4 : Int32) * p0) + (2 : Int32)) / (3 : Int32)) - (1 : Int32)) >>> ((1 : Int32) &&& 31))) ||| (((((((4 : Int32) * p0) + (2 : Int32)) / (3 : Int32)) - (1 : Int32)) ||| ((((((4 : Int32) * p0) + (2 : Int32)) / (3 : Int32)) - (1 : Int32)) >>> ((1 : Int32) &&& 31))) >>> ((2 : Int32) &&& 31))) >>> ((4 : Int32) &&& 31))) ||| (((((((((4 : Int32) * p0) + (2 : Int32)) / (3 : Int32)) - (1 : Int32)) ||| ((((((4 : Int32) * p0) + (2 : Int32)) / (3 : Int32)) - (1 : Int32)) >>> ((1 : Int32) &&& 31))) ||| (((((((4 : Int32) * p0) + (2 : Int32)) / (3 : Int32)) - (1 : Int32)) ||| ((((((4 : Int32) * p0) + (2 : Int32)) / (3 : Int32)) - (1 : Int32)) >>> ((1 : Int32) &&& 31))) >>> ((2 : Int32) &&& 31))) ||| ((((((((4 : Int32) * p0) + (2 : Int32)) / (3 : Int32)) - (1 : Int32)) ||| ((((((4 : Int32) * p0) + (2 : Int32)) / (3 : Int32)) - (1 : Int32)) >>> ((1 : Int32) &&& 31))) ||| (((((((4 : Int32) * p0) + (2 : Int32)) / (3 : Int32)) - (1 : Int32)) ||| ((((((4 : Int32) * p0) + (2 : Int32)) / (3 : Int32)) - (1 : Int32)) >>> ((1 : Int32) &&& 31))) >>> ((2 : Int32) &&& 31))) >>> ((4 : Int32) &&& 31))) >>> ((8 : Int32) &&& 31))) ||| ((((((((((4 : Int32) * p0) + (2 : Int32)) / (3 : Int32)) - (1 : Int32)) ||| ((((((4 : Int32) * p0) + (2 : Int32)) / (3 : Int32)) - (1 : Int32)) >>> ((1 : Int32) &&& 31))) ||| (((((((4 : Int32) * p0) + (2 : Int32)) / (3 : Int32)) - (1 : Int32)) ||| ((((((4 : Int32) * p0) + (2 : Int32)) / (3 : Int32)) - (1 : Int32)) >>> ((1 : Int32) &&& 31))) >>> ((2 : Int32) &&& 31))) ||| ((((((((4 : Int32) * p0) + (2 : Int32)) / (3 : Int32)) - (1 : Int32)) ||| ((((((4 : Int32) * p0) + (2 : Int32)) / (3 : Int32)) - (1 : Int32)) >>> ((1 : Int32) &&& 31))) ||| (((((((4 : Int32) * p0) + (2 : Int32)) / (3 : Int32)) - (1 : Int32)) ||| ((((((4 : Int32) * p0) + (2 : Int32)) / (3 : Int32)) - (1 : Int32)) >>> ((1 : Int32) &&& 31))) >>> ((2 : Int32) &&& 31))) >>> ((4 : Int32) &&& 31))) ||| (((((((((4 : Int32) * p0) + (2 : Int32)) / (3 : Int32)) - (1 : Int32)) ||| ((((((4 : Int32) * p0) + (2 : Int32)) / (3 : Int32)) - (1 : Int32)) >>> ((1 : Int32) &&& 31))) ||| (((((((4 : Int32) * p0) + (2 : Int32)) / (3 : Int32)) - (1 : Int32)) ||| ((((((4 : Int32) * p0) + (2 : Int32)) / (3 : Int32)) - (1 : Int32)) >>> ((1 : Int32) &&& 31))) >>> ((2 : Int32) &&& 31))) ||| ((((((((4 : Int32) * p0) + (2 : Int32)) / (3 : Int32)) - (1 : Int32)) ||| ((((((4 : Int32) * p0) + (2 : Int32)) / (3 : Int32)) - (1 : Int32)) >>> ((1 : Int32) &&& 31))) ||| (((((((4 : Int32) * p0) + (2 : Int32)) / (3 : Int32)) - (1 : Int32)) ||| ((((((4 : Int32) * p0) + (2 : Int32)) / (3 : Int32)) - (1 : Int32)) >>> ((1 : Int32) &&& 31))) >>> ((2 : Int32) &&& 31))) >>> ((4 : Int32) &&& 31))) >>> ((8 : Int32) &&& 31))) >>> ((16 : Int32) &&& 31)))), .unset] [(.int (((((((((((4 : Int32) * p0) + (2 : Int32)) / (3 : Int32)) - (1 : Int32)) ||| ((((((4 : Int32) * p0) + (2 : Int32)) / (3 : Int32)) - (1 : Int32)) >>> ((1 : Int32) &&& 31))) ||| (((((((4 : Int32) * p0) + (2 : Int32)) / (3 : Int32)) - (1 : Int32)) ||| ((((((4 : Int32) * p0) + (2 : Int32)) / (3 : Int32)) - (1 : Int32)) >>> ((1 : Int32) &&& 31))) >>> ((2 : Int32) &&& 31))) ||| ((((((((4 : Int32) * p0) + (2 : Int32)) / (3 : Int32)) - (1 : Int32)) ||| ((((((4 : Int32) * p0) + (2 : Int32)) / (3 : Int32)) - (1 : Int32)) >>> ((1 : Int32) &&& 31))) ||| (((((((4 : Int32) * p0) + (2 : Int32)) / (3 : Int32)) - (1 : Int32)) ||| ((((((4 : Int32) * p0) + (2 : Int32)) / (3 : Int32)) - (1 : Int32)) >>> ((1 : Int32) &&& 31))) >>> ((2 : Int32) &&& 31))) >>> ((4 : Int32) &&& 31))) ||| (((((((((4 : Int32) * p0) + (2 : Int32)) / (3 : Int32)) - (1 : Int32)) ||| ((((((4 : Int32) * p0) + (2 : Int32)) / (3 : Int32)) - (1 : Int32)) >>> ((1 : Int32) &&& 31))) ||| (((((((4 : Int32) * p0) + (2 : Int32)) / (3 : Int32)) - (1 : Int32)) ||| ((((((4 : Int32) * p0) + (2 : Int32)) / (3 : Int32)) - (1 : Int32)) >>> ((1 : Int32) &&& 31))) >>> ((2 : Int32) &&& 31))) ||| ((((((((4 : Int32) * p0) + (2 : Int32)) / (3 : Int32)) - (1 : Int32)) ||| ((((((4 : Int32) * p0) + (2 : Int32)) / (3 : Int32)) - (1 : Int32)) >>> ((1 : Int32) &&& 31))) ||| (((((((4 : Int32) * p0) + (2 : Int32)) / (3 : Int32)) - (1 : Int32)) ||| ((((((4 : Int32) * p0) + (2 : Int32)) / (3 : Int32)) - (1 : Int32)) >>> ((1 : Int32) &&& 31))) >>> ((2 : Int32) &&& 31))) >>> ((4 : Int32) &&& 31))) >>> ((8 : Int32) &&& 31))) ||| ((((((((((4 : Int32) * p0) + (2 : Int32)) / (3 : Int32)) - (1 : Int32)) ||| ((((((4 : Int32) * p0) + (2 : Int32)) / (3 : Int32)) - (1 : Int32)) >>> ((1 : Int32) &&& 31))) ||| (((((((4 : Int32) * p0) + (2 : Int32)) / (3 : Int32)) - (1 : Int32)) ||| ((((((4 : Int32) * p0) + (2 : Int32)) / (3 : Int32)) - (1 : Int32)) >>> ((1 : Int32) &&& 31))) >>> ((2 : Int32) &&& 31))) ||| ((((((((4 : Int32) * p0) + (2 : Int32)) / (3 : Int32)) - (1 : Int32)) ||| ((((((4 : Int32) * p0) + (2 : Int32)) / (3 : Int32)) - (1 : Int32)) >>> ((1 : Int32) &&& 31))) ||| (((((((4 : Int32) * p0) + (2 : Int32)) / (3 : Int32)) - (1 : Int32)) ||| ((((((4 : Int32) * p0) + (2 : Int32)) / (3 : Int32)) - (1 : Int32)) >>> ((1 : Int32) &&& 31))) >>> ((2 : Int32) &&& 31))) >>> ((4 : Int32) &&& 31))) ||| (((((((((4 : Int32) * p0) + (2 : Int32)) / (3 : Int32)) - (1 : Int32)) ||| ((((((4 : Int32) * p0) + (2 : Int32)) / (3 : Int32)) - (1 : Int32)) >>> ((1 : Int32) &&& 31))) ||| (((((((4 : Int32) * p0) + (2 : Int32)) / (3 : Int32)) - (1 : Int32)) ||| ((((((4 : Int32) * p0) + (2 : Int32)) / (3 : Int32)) - (1 : Int32)) >>> ((1 : Int32) &&& 31))) >>> ((2 : Int32) &&& 31))) ||| ((((((((4 : Int32) * p0) + (2 : Int32)) / (3 : Int32)) - (1 : Int32)) ||| ((((((4 : Int32) * p0) + (2 : Int32)) / (3 : Int32)) - (1 : Int32)) >>> ((1 : Int32) &&& 31))) ||| (((((((4 : Int32) * p0) + (2 : Int32)) / (3 : Int32)) - (1 : Int32)) ||| ((((((4 : Int32) * p0) + (2 : Int32)) / (3 : Int32)) - (1 : Int32)) >>> ((1 : Int32) &&& 31))) >>> ((2 : Int32) &&& 31))) >>> ((4 : Int32) &&& 31))) >>> ((8 : Int32) &&& 31))) >>> ((16 : Int32) &&& 31))) + (1 : Int32)))]))
    refine own_st (fun _ => XS.bipush X0.here hx rfl (hb hby own_dexp_53)) ?_
    show own_End p e below P (s₁.setTop (mkF m 55 #[.val (.int p0), .val (.int ((((4 : Int32) * p0) + (2 : Int32)) / (3 : Int32))), .val (.int ((((((((((4 : Int32) * p0) + (2 : Int32)) / (3 : Int32)) - (1 : Int32)) ||| ((((((4 : Int32) * p0) + (2 : Int32)) / (3 : Int32)) - (1 : Int32)) >>> ((1 : Int32) &&& 31))) ||| (((((((4 : Int32) * p0) + (2 : Int32)) / (3 : Int32)) - (1 : Int32)) ||| ((((((4 : Int32) * p0) + (2 : Int32)) / (3 : Int32)) - (1 : Int32)) >>> ((1 : Int32) &&& 31))) >>> ((2 : Int32) &&& 31))) ||| ((((((((4 : Int32) * p0) + (2 : Int32)) / (3 : Int32)) - (1 : Int32)) ||| ((((((4 : Int32) * p0) + (2 : Int32)) / (3 : Int32)) - (1 : Int32)) >>> ((1 : Int32) &&& 31))) ||| (((((((4 : Int32) * p0) + (2 : Int32)) / (3 : Int32)) - (1 : Int32)) ||| ((((((4 : Int32) * p0) + (2 : Int32)) / (3 : Int32)) - (1 : Int32)) >>> ((1 : Int32) &&& 31))) >>> ((2 : Int32) &&& 31))) >>> ((4 : Int32) &&& 31))) ||| (((((((((4 : Int32) * p0) + (2 : Int32)) / (3 : Int32)) - (1 : Int32)) ||| ((((((4 : Int32) * p0) + (2 : Int32)) / (3 : Int32)) - (1 : Int32)) >>> ((1 : Int32) &&& 31))) ||| (((((((4 : Int32) * p0) + (2 : Int32)) / (3 : Int32)) - (1 : Int32)) ||| ((((((4 : Int32) * p0) + (2 : Int32)) / (3 : Int32)) - (1 : Int32)) >>> ((1 : Int32) &&& 31))) >>> ((2 : Int32) &&& 31))) ||| ((((((((4 : Int32) * p0) + (2 : Int32)) / (3 : Int32)) - (1 : Int32)) ||| ((((((4 : Int32) * p0) + (2 : Int32)) / (3 : Int32)) - (1 : Int32)) >>> ((1 : Int32) &&& 31))) ||| (((((((4 : Int32) * p0) + (2 : Int32)) / (3 : Int32)) - (1 : Int32)) ||| ((((((4 : Int32) * p0) + (2 : Int32)) / (3 : Int32)) - (1 : Int32)) >>> ((1 : Int32) &&& 31))) >>> ((2 : Int32) &&& 31))) >>> ((4 : Int32) &&& 31))) >>> ((8 : Int32) &&& 31))) ||| ((((((((((4 : Int32) * p0) + (2 : Int32)) / (3 : Int32)) - (1 : Int32)) ||| ((((((4 : Int32) * p0) + (2 : Int32)) / (3 : Int32)) - (1 : Int32)) >>> ((1 : Int32) &&& 31))) ||| (((((((4 : Int32) * p0) + (2 : Int32)) / (3 : Int32)) - (1 : Int32)) ||| ((((((4 : Int32) * p0) + (2 : Int32)) / (3 : Int32)) - (1 : Int32)) >>> ((1 : Int32) &&& 31))) >>> ((2 : Int32) &&& 31))) ||| ((((((((4 : Int32) * p0) + (2 : Int32)) / (3 : Int32)) - (1 : Int32)) ||| ((((((4 : Int32) * p0) + (2 : Int32)) / (3 : Int32)) - (1 : Int32)) >>> ((1 : Int32) &&& 31))) ||| (((((((4 : Int32) * p0) + (2 : Int32)) / (3 : Int32)) - (1 : Int32)) ||| ((((((4 : Int32) * p0) + (2 : Int32)) / (3 : Int32)) - (1 : Int32)) >>> ((1 : Int32) &&& 31))) >>> ((2 : Int32) &&& 31))) >>> ((4 : Int32) &&& 31))) ||| (((((((((4 : Int32) * p0) + (2 : Int32)) / (3 : Int32)) - (1 : Int32)) ||| ((((((4 : Int32) * p0) + (2 : Int32)) / (3 : Int32)) - (1 : Int32)) >>> ((1 : Int32) &&& 31))) ||| (((((((4 : Int32) * p0) + (2 : Int32)) / (3 : Int32)) - (1 : Int32)) ||| ((((((4 : Int32) * p0) + (2 : Int32)) / (3 : Int32)) - (1 : Int32)) >>> ((1 : Int32) &&& 31))) >>> ((2 : Int32) &&& 31))) ||| ((((((((4 : Int32) * p0) + (2 : Int32)) / (3 : Int32)) - (1 : Int32)) ||| ((((((4 : Int32) * p0) + (2 : Int32)) / (3 : Int32)) - (1 : Int32)) >>> ((1 : Int32) &&& 31))) ||| (((((((4 : Int32) * p0) + (2 : Int32)) / (3 : Int32)) - (1 : Int32)) ||| ((((((4 : Int32) * p0) + (2 : Int32)) / (3 : Int32)) - (1 : Int32)) >>> ((1 : Int32) &&& 31))) >>> ((2 : Int32) &&& 31))) >>> ((4 : Int32) &&& 31))) >>> ((8 : Int32) &&& 31))) >>> ((16 : Int32) &&& 31)))), .unset] [(.int (16 : Int32)), (.int (((((((((((4 : Int32) * p0) + (2 : Int32)) / (3 : Int32)) - (1 : Int32)) ||| ((((((4 : Int32) * p0) + (2 : Int32)) / (3 : Int32)) - (1 : Int32)) >>> ((1 : Int32) &&& 31))) ||| (((((((4 : Int32) * p0) + (2 : Int32)) / (3 : Int32)) - (1 : Int32)) ||| ((((((4 : Int32) * p0) + (2 : Int32)) / (3 : Int32)) - (1 : Int32)) >>> ((1 : Int32) &&& 31))) >>> ((2 : Int32) &&& 31))) ||| ((((((((4 : Int32) * p0) + (2 : Int32)) / (3 : Int32)) - (1 : Int32)) ||| ((((((4 : Int32) * p0) + (2 : Int32)) / (3 : Int32)) - (1 : Int32)) >>> ((1 : Int32) &&& 31))) ||| (((((((4 : Int32) * p0) + (2 : Int32)) / (3 : Int32)) - (1 : Int32)) ||| ((((((4 : Int32) * p0) + (2 : Int32)) / (3 : Int32)) - (1 : Int32)) >>> ((1 : Int32) &&& 31))) >>> ((2 : Int32) &&& 31))) >>> ((4 : Int32) &&& 31))) ||| (((((((((4 : Int32) * p0) + (2 : Int32)) / (3 : Int32)) - (1 : Int32)) ||| ((((((4 : Int32) * p0) + (2 : Int32)) / (3 : Int32)) - (1 : Int32)) >>> ((1 : Int32) &&& 31))) ||| (((((((4 : Int32) * p0) + (2 : Int32)) / (3 : Int32)) - (1 : Int32)) ||| ((((((4 : Int32) * p0) + (2 : Int32)) / (3 : Int32)) - (1 : Int32)) >>> ((1 : Int32) &&& 31))) >>> ((2 : Int32) &&& 31))) ||| ((((((((4 : Int32) * p0) + (2 : Int32)) / (3 : Int32)) - (1 : Int32)) ||| ((((((4 : Int32) * p0) + (2 : Int32)) / (3 : Int32)) - (1 : Int32)) >>> ((1 : Int32) &&& 31))) ||| (((((((4 : Int32) * p0) + (2 : Int32)) / (3 : Int32)) - (1 : Int32)) ||| ((((((4 : Int32) * p0) + (2 : Int32)) / (3 : Int32)) - (1 : Int32)) >>> ((1 : Int32) &&& 31))) >>> ((2 : Int32) &&& 31))) >>> ((4 : Int32) &&& 31))) >>> ((8 : Int32) &&& 31))) ||| ((((((((((4 : Int32) * p0) + (2 : Int32)) / (3 : Int32)) - (1 : Int32)) ||| ((((((4 : Int32) * p0) + (2 : Int32)) / (3 : Int32)) - (1 : Int32)) >>> ((1 : Int32) &&& 31))) ||| (((((((4 : Int32) * p0) + (2 : Int32)) / (3 : Int32)) - (1 : Int32)) ||| ((((((4 : Int32) * p0) + (2 : Int32)) / (3 : Int32)) - (1 : Int32)) >>> ((1 : Int32) &&& 31))) >>> ((2 : Int32) &&& 31))) ||| ((((((((4 : Int32) * p0) + (2 : Int32)) / (3 : Int32)) - (1 : Int32)) ||| ((((((4 : Int32) * p0) + (2 : Int32)) / (3 : Int32)) - (1 : Int32)) >>> ((1 : Int32) &&& 31))) ||| (((((((4 : Int32) * p0) + (2 : Int32)) / (3 : Int32)) - (1 : Int32)) ||| ((((((4 : Int32) * p0) + (2 : Int32)) / (3 : Int32)) - (1 : Int32)) >>> ((1 : Int32) &&& 31))) >>> ((2 : Int32) &&& 31))) >>> ((4 : Int32) &&& 31))) ||| (((((((((4 : Int32) * p0) + (2 : Int32)) / (3 : Int32)) - (1 : Int32)) ||| ((((((4 : Int32) * p0) + (2 : Int32)) / (3 : Int32)) - (1 : Int32)) >>> ((1 : Int32) &&& 31))) ||| (((((((4 : Int32) * p0) + (2 : Int32)) / (3 : Int32)) - (1 : Int32)) ||| ((((((4 : Int32) * p0) + (2 : Int32)) / (3 : Int32)) - (1 : Int32)) >>> ((1 : Int32) &&& 31))) >>> ((2 : Int32) &&& 31))) ||| ((((((((4 : Int32) * p0) + (2 : Int32)) / (3 : Int32)) - (1 : Int32)) ||| ((((((4 : Int32) * p0) + (2 : Int32)) / (3 : Int32)) - (1 : Int32)) >>> ((1 : Int32) &&& 31))) ||| (((((((4 : Int32) * p0) + (2 : Int32)) / (3 : Int32)) - (1 : Int32)) ||| ((((((4 : Int32) * p0) + (2 : Int32)) / (3 : Int32)) - (1 : Int32)) >>> ((1 : Int32) &&& 31))) >>> ((2 : Int32) &&& 31))) >>> ((4 : Int32) &&& 31))) >>> ((8 : Int32) &&& 31))) >>> ((16 : Int32) &&& 31))) + (1 : Int32)))]))
    refine own_callS X0 hx hZ (y := (⟨"java/lang/Math", "max", "(II)I"⟩ : MethodName)) hown (hw _ (List.mem_of_getElem? (i := 49) rfl)) (hw _ (List.mem_of_getElem? (i := 50) rfl)) (hw _ (List.mem_of_getElem? (i := 51) rfl)) (hw _ (List.mem_of_getElem? (i := 52) rfl)) (by decide) (own_mmax l Z a0 hw [] (((((((((((4 : Int32) * p0) + (2 : Int32)) / (3 : Int32)) - (1 : Int32)) ||| ((((((4 : Int32) * p0) + (2 : Int32)) / (3 : Int32)) - (1 : Int32)) >>> ((1 : Int32) &&& 31))) ||| (((((((4 : Int32) * p0) + (2 : Int32)) / (3 : Int32)) - (1 : Int32)) ||| ((((((4 : Int32) * p0) + (2 : Int32)) / (3 : Int32)) - (1 : Int32)) >>> ((1 : Int32) &&& 31))) >>> ((2 : Int32) &&& 31))) ||| ((((((((4 : Int32) * p0) + (2 : Int32)) / (3 : Int32)) - (1 : Int32)) ||| ((((((4 : Int32) * p0) + (2 : Int32)) / (3 : Int32)) - (1 : Int32)) >>> ((1 : Int32) &&& 31))) ||| (((((((4 : Int32) * p0) + (2 : Int32)) / (3 : Int32)) - (1 : Int32)) ||| ((((((4 : Int32) * p0) + (2 : Int32)) / (3 : Int32)) - (1 : Int32)) >>> ((1 : Int32) &&& 31))) >>> ((2 : Int32) &&& 31))) >>> ((4 : Int32) &&& 31))) ||| (((((((((4 : Int32) * p0) + (2 : Int32)) / (3 : Int32)) - (1 : Int32)) ||| ((((((4 : Int32) * p0) + (2 : Int32)) / (3 : Int32)) - (1 : Int32)) >>> ((1 : Int32) &&& 31))) ||| (((((((4 : Int32) * p0) + (2 : Int32)) / (3 : Int32)) - (1 : Int32)) ||| ((((((4 : Int32) * p0) + (2 : Int32)) / (3 : Int32)) - (1 : Int32)) >>> ((1 : Int32) &&& 31))) >>> ((2 : Int32) &&& 31))) ||| ((((((((4 : Int32) * p0) + (2 : Int32)) / (3 : Int32)) - (1 : Int32)) ||| ((((((4 : Int32) * p0) + (2 : Int32)) / (3 : Int32)) - (1 : Int32)) >>> ((1 : Int32) &&& 31))) ||| (((((((4 : Int32) * p0) + (2 : Int32)) / (3 : Int32)) - (1 : Int32)) ||| ((((((4 : Int32) * p0) + (2 : Int32)) / (3 : Int32)) - (1 : Int32)) >>> ((1 : Int32) &&& 31))) >>> ((2 : Int32) &&& 31))) >>> ((4 : Int32) &&& 31))) >>> ((8 : Int32) &&& 31))) ||| ((((((((((4 : Int32) * p0) + (2 : Int32)) / (3 : Int32)) - (1 : Int32)) ||| ((((((4 : Int32) * p0) + (2 : Int32)) / (3 : Int32)) - (1 : Int32)) >>> ((1 : Int32) &&& 31))) ||| (((((((4 : Int32) * p0) + (2 : Int32)) / (3 : Int32)) - (1 : Int32)) ||| ((((((4 : Int32) * p0) + (2 : Int32)) / (3 : Int32)) - (1 : Int32)) >>> ((1 : Int32) &&& 31))) >>> ((2 : Int32) &&& 31))) ||| ((((((((4 : Int32) * p0) + (2 : Int32)) / (3 : Int32)) - (1 : Int32)) ||| ((((((4 : Int32) * p0) + (2 : Int32)) / (3 : Int32)) - (1 : Int32)) >>> ((1 : Int32) &&& 31))) ||| (((((((4 : Int32) * p0) + (2 : Int32)) / (3 : Int32)) - (1 : Int32)) ||| ((((((4 : Int32) * p0) + (2 : Int32)) / (3 : Int32)) - (1 : Int32)) >>> ((1 : Int32) &&& 31))) >>> ((2 : Int32) &&& 31))) >>> ((4 : Int32) &&& 31))) ||| (((((((((4 : Int32) * p0) + (2 : Int32)) / (3 : Int32)) - (1 : Int32)) ||| ((((((4 : Int32) * p0) + (2 : Int32)) / (3 : Int32)) - (1 : Int32)) >>> ((1 : Int32) &&& 31))) ||| (((((((4 : Int32) * p0) + (2 : Int32)) / (3 : Int32)) - (1 : Int32)) ||| ((((((4 : Int32) * p0) + (2 : Int32)) / (3 : Int32)) - (1 : Int32)) >>> ((1 : Int32) &&& 31))) >>> ((2 : Int32) &&& 31))) ||| ((((((((4 : Int32) * p0) + (2 : Int32)) / (3 : Int32)) - (1 : Int32)) ||| ((((((4 : Int32) * p0) + (2 : Int32)) / (3 : Int32)) - (1 : Int32)) >>> ((1 : Int32) &&& 31))) ||| (((((((4 : Int32) * p0) + (2 : Int32)) / (3 : Int32)) - (1 : Int32)) ||| ((((((4 : Int32) * p0) + (2 : Int32)) / (3 : Int32)) - (1 : Int32)) >>> ((1 : Int32) &&& 31))) >>> ((2 : Int32) &&& 31))) >>> ((4 : Int32) &&& 31))) >>> ((8 : Int32) &&& 31))) >>> ((16 : Int32) &&& 31))) + (1 : Int32)) (16 : Int32)  h0 n0 (Nat.le_trans Z0 K0.1) ) 0 (by decide) (by decide) e0 (by decide) (by decide) (g := (mkF m 55 #[.val (.int p0), .val (.int ((((4 : Int32) * p0) + (2 : Int32)) / (3 : Int32))), .val (.int ((((((((((4 : Int32) * p0) + (2 : Int32)) / (3 : Int32)) - (1 : Int32)) ||| ((((((4 : Int32) * p0) + (2 : Int32)) / (3 : Int32)) - (1 : Int32)) >>> ((1 : Int32) &&& 31))) ||| (((((((4 : Int32) * p0) + (2 : Int32)) / (3 : Int32)) - (1 : Int32)) ||| ((((((4 : Int32) * p0) + (2 : Int32)) / (3 : Int32)) - (1 : Int32)) >>> ((1 : Int32) &&& 31))) >>> ((2 : Int32) &&& 31))) ||| ((((((((4 : Int32) * p0) + (2 : Int32)) / (3 : Int32)) - (1 : Int32)) ||| ((((((4 : Int32) * p0) + (2 : Int32)) / (3 : Int32)) - (1 : Int32)) >>> ((1 : Int32) &&& 31))) ||| (((((((4 : Int32) * p0) + (2 : Int32)) / (3 : Int32)) - (1 : Int32)) ||| ((((((4 : Int32) * p0) + (2 : Int32)) / (3 : Int32)) - (1 : Int32)) >>> ((1 : Int32) &&& 31))) >>> ((2 : Int32) &&& 31))) >>> ((4 : Int32) &&& 31))) ||| (((((((((4 : Int32) * p0) + (2 : Int32)) / (3 : Int32)) - (1 : Int32)) ||| ((((((4 : Int32) * p0) + (2 : Int32)) / (3 : Int32)) - (1 : Int32)) >>> ((1 : Int32) &&& 31))) ||| (((((((4 : Int32) * p0) + (2 : Int32)) / (3 : Int32)) - (1 : Int32)) ||| ((((((4 : Int32) * p0) + (2 : Int32)) / (3 : Int32)) - (1 : Int32)) >>> ((1 : Int32) &&& 31))) >>> ((2 : Int32) &&& 31))) ||| ((((((((4 : Int32) * p0) + (2 : Int32)) / (3 : Int32)) - (1 : Int32)) ||| ((((((4 : Int32) * p0) + (2 : Int32)) / (3 : Int32)) - (1 : Int32)) >>> ((1 : Int32) &&& 31))) ||| (((((((4 : Int32) * p0) + (2 : Int32)) / (3 : Int32)) - (1 : Int32)) ||| ((((((4 : Int32) * p0) + (2 : Int32)) / (3 : Int32)) - (1 : Int32)) >>> ((1 : Int32) &&& 31))) >>> ((2 : Int32) &&& 31))) >>> ((4 : Int32) &&& 31))) >>> ((8 : Int32) &&& 31))) ||| ((((((((((4 : Int32) * p0) + (2 : Int32)) / (3 : Int32)) - (1 : Int32)) ||| ((((((4 : Int32) * p0) + (2 : Int32)) / (3 : Int32)) - (1 : Int32)) >>> ((1 : Int32) &&& 31))) ||| (((((((4 : Int32) * p0) + (2 : Int32)) / (3 : Int32)) - (1 : Int32)) ||| ((((((4 : Int32) * p0) + (2 : Int32)) / (3 : Int32)) - (1 : Int32)) >>> ((1 : Int32) &&& 31))) >>> ((2 : Int32) &&& 31))) ||| ((((((((4 : Int32) * p0) + (2 : Int32)) / (3 : Int32)) - (1 : Int32)) ||| ((((((4 : Int32) * p0) + (2 : Int32)) / (3 : Int32)) - (1 : Int32)) >>> ((1 : Int32) &&& 31))) ||| (((((((4 : Int32) * p0) + (2 : Int32)) / (3 : Int32)) - (1 : Int32)) ||| ((((((4 : Int32) * p0) + (2 : Int32)) / (3 : Int32)) - (1 : Int32)) >>> ((1 : Int32) &&& 31))) >>> ((2 : Int32) &&& 31))) >>> ((4 : Int32) &&& 31))) ||| (((((((((4 : Int32) * p0) + (2 : Int32)) / (3 : Int32)) - (1 : Int32)) ||| ((((((4 : Int32) * p0) + (2 : Int32)) / (3 : Int32)) - (1 : Int32)) >>> ((1 : Int32) &&& 31))) ||| (((((((4 : Int32) * p0) + (2 : Int32)) / (3 : Int32)) - (1 : Int32)) ||| ((((((4 : Int32) * p0) + (2 : Int32)) / (3 : Int32)) - (1 : Int32)) >>> ((1 : Int32) &&& 31))) >>> ((2 : Int32) &&& 31))) ||| ((((((((4 : Int32) * p0) + (2 : Int32)) / (3 : Int32)) - (1 : Int32)) ||| ((((((4 : Int32) * p0) + (2 : Int32)) / (3 : Int32)) - (1 : Int32)) >>> ((1 : Int32) &&& 31))) ||| (((((((4 : Int32) * p0) + (2 : Int32)) / (3 : Int32)) - (1 : Int32)) ||| ((((((4 : Int32) * p0) + (2 : Int32)) / (3 : Int32)) - (1 : Int32)) >>> ((1 : Int32) &&& 31))) >>> ((2 : Int32) &&& 31))) >>> ((4 : Int32) &&& 31))) >>> ((8 : Int32) &&& 31))) >>> ((16 : Int32) &&& 31)))), .unset] [(.int (16 : Int32)), (.int (((((((((((4 : Int32) * p0) + (2 : Int32)) / (3 : Int32)) - (1 : Int32)) ||| ((((((4 : Int32) * p0) + (2 : Int32)) / (3 : Int32)) - (1 : Int32)) >>> ((1 : Int32) &&& 31))) ||| (((((((4 : Int32) * p0) + (2 : Int32)) / (3 : Int32)) - (1 : Int32)) ||| ((((((4 : Int32) * p0) + (2 : Int32)) / (3 : Int32)) - (1 : Int32)) >>> ((1 : Int32) &&& 31))) >>> ((2 : Int32) &&& 31))) ||| ((((((((4 : Int32) * p0) + (2 : Int32)) / (3 : Int32)) - (1 : Int32)) ||| ((((((4 : Int32) * p0) + (2 : Int32)) / (3 : Int32)) - (1 : Int32)) >>> ((1 : Int32) &&& 31))) ||| (((((((4 : Int32) * p0) + (2 : Int32)) / (3 : Int32)) - (1 : Int32)) ||| ((((((4 : Int32) * p0) + (2 : Int32)) / (3 : Int32)) - (1 : Int32)) >>> ((1 : Int32) &&& 31))) >>> ((2 : Int32) &&& 31))) >>> ((4 : Int32) &&& 31))) ||| (((((((((4 : Int32) * p0) + (2 : Int32)) / (3 : Int32)) - (1 : Int32)) ||| ((((((4 : Int32) * p0) + (2 : Int32)) / (3 : Int32)) - (1 : Int32)) >>> ((1 : Int32) &&& 31))) ||| (((((((4 : Int32) * p0) + (2 : Int32)) / (3 : Int32)) - (1 : Int32)) ||| ((((((4 : Int32) * p0) + (2 : Int32)) / (3 : Int32)) - (1 : Int32)) >>> ((1 : Int32) &&& 31))) >>> ((2 : Int32) &&& 31))) ||| ((((((((4 : Int32) * p0) + (2 : Int32)) / (3 : Int32)) - (1 : Int32)) ||| ((((((4 : Int32) * p0) + (2 : Int32)) / (3 : Int32)) - (1 : Int32)) >>> ((1 : Int32) &&& 31))) ||| (((((((4 : Int32) * p0) + (2 : Int32)) / (3 : Int32)) - (1 : Int32)) ||| ((((((4 : Int32) * p0) + (2 : Int32)) / (3 : Int32)) - (1 : Int32)) >>> ((1 : Int32) &&& 31))) >>> ((2 : Int32) &&& 31))) >>> ((4 : Int32) &&& 31))) >>> ((8 : Int32) &&& 31))) ||| ((((((((((4 : Int32) * p0) + (2 : Int32)) / (3 : Int32)) - (1 : Int32)) ||| ((((((4 : Int32) * p0) + (2 : Int32)) / (3 : Int32)) - (1 : Int32)) >>> ((1 : Int32) &&& 31))) ||| (((((((4 : Int32) * p0) + (2 : Int32)) / (3 : Int32)) - (1 : Int32)) ||| ((((((4 : Int32) * p0) + (2 : Int32)) / (3 : Int32)) - (1 : Int32)) >>> ((1 : Int32) &&& 31))) >>> ((2 : Int32) &&& 31))) ||| ((((((((4 : Int32) * p0) + (2 : Int32)) / (3 : Int32)) - (1 : Int32)) ||| ((((((4 : Int32) * p0) + (2 : Int32)) / (3 : Int32)) - (1 : Int32)) >>> ((1 : Int32) &&& 31))) ||| (((((((4 : Int32) * p0) + (2 : Int32)) / (3 : Int32)) - (1 : Int32)) ||| ((((((4 : Int32) * p0) + (2 : Int32)) / (3 : Int32)) - (1 : Int32)) >>> ((1 : Int32) &&& 31))) >>> ((2 : Int32) &&& 31))) >>> ((4 : Int32) &&& 31))) ||| (((((((((4 : Int32) * p0) + (2 : Int32)) / (3 : Int32)) - (1 : Int32)) ||| ((((((4 : Int32) * p0) + (2 : Int32)) / (3 : Int32)) - (1 : Int32)) >>> ((1 : Int32) &&& 31))) ||| (((((((4 : Int32) * p0) + (2 : Int32)) / (3 : Int32)) - (1 : Int32)) ||| ((((((4 : Int32) * p0) + (2 : Int32)) / (3 : Int32)) - (1 : Int32)) >>> ((1 : Int32) &&& 31))) >>> ((2 : Int32) &&& 31))) ||| ((((((((4 : Int32) * p0) + (2 : Int32)) / (3 : Int32)) - (1 : Int32)) ||| ((((((4 : Int32) * p0) + (2 : Int32)) / (3 : Int32)) - (1 : Int32)) >>> ((1 : Int32) &&& 31))) ||| (((((((4 : Int32) * p0) + (2 : Int32)) / (3 : Int32)) - (1 : Int32)) ||| ((((((4 : Int32) * p0) + (2 : Int32)) / (3 : Int32)) - (1 : Int32)) >>> ((1 : Int32) &&& 31))) >>> ((2 : Int32) &&& 31))) >>> ((4 : Int32) &&& 31))) >>> ((8 : Int32) &&& 31))) >>> ((16 : Int32) &&& 31))) + (1 : Int32)))])) rfl (by rw [hml']; rfl) (argsL := [(.int (((((((((((4 : Int32) * p0) + (2 : Int32)) / (3 : Int32)) - (1 : Int32)) ||| ((((((4 : Int32) * p0) + (2 : Int32)) / (3 : Int32)) - (1 : Int32)) >>> ((1 : Int32) &&& 31))) ||| (((((((4 : Int32) * p0) + (2 : Int32)) / (3 : Int32)) - (1 : Int32)) ||| ((((((4 : Int32) * p0) + (2 : Int32)) / (3 : Int32)) - (1 : Int32)) >>> ((1 : Int32) &&& 31))) >>> ((2 : Int32) &&& 31))) ||| ((((((((4 : Int32) * p0) + (2 : Int32)) / (3 : Int32)) - (1 : Int32)) ||| ((((((4 : Int32) * p0) + (2 : Int32)) / (3 : Int32)) - (1 : Int32)) >>> ((1 : Int32) &&& 31))) ||| (((((((4 : Int32) * p0) + (2 : Int32)) / (3 : Int32)) - (1 : Int32)) ||| ((((((4 : Int32) * p0) + (2 : Int32)) / (3 : Int32)) - (1 : Int32)) >>> ((1 : Int32) &&& 31))) >>> ((2 : Int32) &&& 31))) >>> ((4 : Int32) &&& 31))) ||| (((((((((4 : Int32) * p0) + (2 : Int32)) / (3 : Int32)) - (1 : Int32)) ||| ((((((4 : Int32) * p0) + (2 : Int32)) / (3 : Int32)) - (1 : Int32)) >>> ((1 : Int32) &&& 31))) ||| (((((((4 : Int32) * p0) + (2 : Int32)) / (3 : Int32)) - (1 : Int32)) ||| ((((((4 : Int32) * p0) + (2 : Int32)) / (3 : Int32)) - (1 : Int32)) >>> ((1 : Int32) &&& 31))) >>> ((2 : Int32) &&& 31))) ||| ((((((((4 : Int32) * p0) + (2 : Int32)) / (3 : Int32)) - (1 : Int32)) ||| ((((((4 : Int32) * p0) + (2 : Int32)) / (3 : Int32)) - (1 : Int32)) >>> ((1 : Int32) &&& 31))) ||| (((((((4 : Int32) * p0) + (2 : Int32)) / (3 : Int32)) - (1 : Int32)) ||| ((((((4 : Int32) * p0) + (2 : Int32)) / (3 : Int32)) - (1 : Int32)) >>> ((1 : Int32) &&& 31))) >>> ((2 : Int32) &&& 31))) >>> ((4 : Int32) &&& 31))) >>> ((8 : Int32) &&& 31))) ||| ((((((((((4 : Int32) * p0) + (2 : Int32)) / (3 : Int32)) - (1 : Int32)) ||| ((((((4 : Int32) * p0) + (2 : Int32)) / (3 : Int32)) - (1 : Int32)) >>> ((1 : Int32) &&& 31))) ||| (((((((4 : Int32) * p0) + (2 : Int32)) / (3 : Int32)) - (1 : Int32)) ||| ((((((4 : Int32) * p0) + (2 : Int32)) / (3 : Int32)) - (1 : Int32)) >>> ((1 : Int32) &&& 31))) >>> ((2 : Int32) &&& 31))) ||| ((((((((4 : Int32) * p0) + (2 : Int32)) / (3 : Int32)) - (1 : Int32)) ||| ((((((4 : Int32) * p0) + (2 : Int32)) / (3 : Int32)) - (1 : Int32)) >>> ((1 : Int32) &&& 31))) ||| (((((((4 : Int32) * p0) + (2 : Int32)) / (3 : Int32)) - (1 : Int32)) ||| ((((((4 : Int32) * p0) + (2 : Int32)) / (3 : Int32)) - (1 : Int32)) >>> ((1 : Int32) &&& 31))) >>> ((2 : Int32) &&& 31))) >>> ((4 : Int32) &&& 31))) ||| (((((((((4 : Int32) * p0) + (2 : Int32)) / (3 : Int32)) - (1 : Int32)) ||| ((((((4 : Int32) * p0) + (2 : Int32)) / (3 : Int32)) - (1 : Int32)) >>> ((1 : Int32) &&& 31))) ||| (((((((4 : Int32) * p0) + (2 : Int32)) / (3 : Int32)) - (1 : Int32)) ||| ((((((4 : Int32) * p0) + (2 : Int32)) / (3 : Int32)) - (1 : Int32)) >>> ((1 : Int32) &&& 31))) >>> ((2 : Int32) &&& 31))) ||| ((((((((4 : Int32) * p0) + (2 : Int32)) / (3 : Int32)) - (1 : Int32)) ||| ((((((4 : Int32) * p0) + (2 : Int32)) / (3 : Int32)) - (1 : Int32)) >>> ((1 : Int32) &&& 31))) ||| (((((((4 : Int32) * p0) + (2 : Int32)) / (3 : Int32)) - (1 : Int32)) ||| ((((((4 : Int32) * p0) + (2 : Int32)) / (3 : Int32)) - (1 : Int32)) >>> ((1 : Int32) &&& 31))) >>> ((2 : Int32) &&& 31))) >>> ((4 : Int32) &&& 31))) >>> ((8 : Int32) &&& 31))) >>> ((16 : Int32) &&& 31))) + (1 : Int32))), (.int (16 : Int32))]) (rest := []) rfl (lenOf own_pd_II_I_300 rfl) rfl (by show 2 * 0 + _ ≤ _; exact Nat.le_of_eq rfl) (hb hby own_dexp_55) (fun r2 T2 L2 X2 hQ2 => ?_)
    obtain ⟨rfl, Nq2, eq2⟩ := hQ2
    have N2 := Fr.app N0 Nq2
    show own_End p e below P (T2.setTop (mkF m 58 #[.val (.int p0), .val (.int ((((4 : Int32) * p0) + (2 : Int32)) / (3 : Int32))), .val (.int ((((((((((4 : Int32) * p0) + (2 : Int32)) / (3 : Int32)) - (1 : Int32)) ||| ((((((4 : Int32) * p0) + (2 : Int32)) / (3 : Int32)) - (1 : Int32)) >>> ((1 : Int32) &&& 31))) ||| (((((((4 : Int32) * p0) + (2 : Int32)) / (3 : Int32)) - (1 : Int32)) ||| ((((((4 : Int32) * p0) + (2 : Int32)) / (3 : Int32)) - (1 : Int32)) >>> ((1 : Int32) &&& 31))) >>> ((2 : Int32) &&& 31))) ||| ((((((((4 : Int32) * p0) + (2 : Int32)) / (3 : Int32)) - (1 : Int32)) ||| ((((((4 : Int32) * p0) + (2 : Int32)) / (3 : Int32)) - (1 : Int32)) >>> ((1 : Int32) &&& 31))) ||| (((((((4 : Int32) * p0) + (2 : Int32)) / (3 : Int32)) - (1 : Int32)) ||| ((((((4 : Int32) * p0) + (2 : Int32)) / (3 : Int32)) - (1 : Int32)) >>> ((1 : Int32) &&& 31))) >>> ((2 : Int32) &&& 31))) >>> ((4 : Int32) &&& 31))) ||| (((((((((4 : Int32) * p0) + (2 : Int32)) / (3 : Int32)) - (1 : Int32)) ||| ((((((4 : Int32) * p0) + (2 : Int32)) / (3 : Int32)) - (1 : Int32)) >>> ((1 : Int32) &&& 31))) ||| (((((((4 : Int32) * p0) + (2 : Int32)) / (3 : Int32)) - (1 : Int32)) ||| ((((((4 : Int32) * p0) + (2 : Int32)) / (3 : Int32)) - (1 : Int32)) >>> ((1 : Int32) &&& 31))) >>> ((2 : Int32) &&& 31))) ||| ((((((((4 : Int32) * p0) + (2 : Int32)) / (3 : Int32)) - (1 : Int32)) ||| ((((((4 : Int32) * p0) + (2 : Int32)) / (3 : Int32)) - (1 : Int32)) >>> ((1 : Int32) &&& 31))) ||| (((((((4 : Int32) * p0) + (2 : Int32)) / (3 : Int32)) - (1 : Int32)) ||| ((((((4 : Int32) * p0) + (2 : Int32)) / (3 : Int32)) - (1 : Int32)) >>> ((1 : Int32) &&& 31))) >>> ((2 : Int32) &&& 31))) >>> ((4 : Int32) &&& 31))) >>> ((8 : Int32) &&& 31))) ||| ((((((((((4 : Int32) * p0) + (2 : Int32)) / (3 : Int32)) - (1 : Int32)) ||| ((((((4 : Int32) * p0) + (2 : Int32)) / (3 : Int32)) - (1 : Int32)) >>> ((1 : Int32) &&& 31))) ||| (((((((4 : Int32) * p0) + (2 : Int32)) / (3 : Int32)) - (1 : Int32)) ||| ((((((4 : Int32) * p0) + (2 : Int32)) / (3 : Int32)) - (1 : Int32)) >>> ((1 : Int32) &&& 31))) >>> ((2 : Int32) &&& 31))) ||| ((((((((4 : Int32) * p0) + (2 : Int32)) / (3 : Int32)) - (1 : Int32)) ||| ((((((4 : Int32) * p0) + (2 : Int32)) / (3 : Int32)) - (1 : Int32)) >>> ((1 : Int32) &&& 31))) ||| (((((((4 : Int32) * p0) + (2 : Int32)) / (3 : Int32)) - (1 : Int32)) ||| ((((((4 : Int32) * p0) + (2 : Int32)) / (3 : Int32)) - (1 : Int32)) >>> ((1 : Int32) &&& 31))) >>> ((2 : Int32) &&& 31))) >>> ((4 : Int32) &&& 31))) ||| (((((((((4 : Int32) * p0) + (2 : Int32)) / (3 : Int32)) - (1 : Int32)) ||| ((((((4 : Int32) * p0) + (2 : Int32)) / (3 : Int32)) - (1 : Int32)) >>> ((1 : Int32) &&& 31))) ||| (((((((4 : Int32) * p0) + (2 : Int32)) / (3 : Int32)) - (1 : Int32)) ||| ((((((4 : Int32) * p0) + (2 : Int32)) / (3 : Int32)) - (1 : Int32)) >>> ((1 : Int32) &&& 31))) >>> ((2 : Int32) &&& 31))) ||| ((((((((4 : Int32) * p0) + (2 : Int32)) / (3 : Int32)) - (1 : Int32)) ||| ((((((4 : Int32) * p0) + (2 : Int32)) / (3 : Int32)) - (1 : Int32)) >>> ((1 : Int32) &&& 31))) ||| (((((((4 : Int32) * p0) + (2 : Int32)) / (3 : Int32)) - (1 : Int32)) ||| ((((((4 : Int32) * p0) + (2 : Int32)) / (3 : Int32)) - (1 : Int32)) >>> ((1 : Int32) &&& 31))) >>> ((2 : Int32) &&& 31))) >>> ((4 : Int32) &&& 31))) >>> ((8 : Int32) &&& 31))) >>> ((16 : Int32) &&& 31)))), .unset] [(.int (own_fmax (((((((((((4 : Int32) * p0) + (2 : Int32)) / (3 : Int32)) - (1 : Int32)) ||| ((((((4 : Int32) * p0) + (2 : Int32)) / (3 : Int32)) - (1 : Int32)) >>> ((1 : Int32) &&& 31))) ||| (((((((4 : Int32) * p0) + (2 : Int32)) / (3 : Int32)) - (1 : Int32)) ||| ((((((4 : Int32) * p0) + (2 : Int32)) / (3 : Int32)) - (1 : Int32)) >>> ((1 : Int32) &&& 31))) >>> ((2 : Int32) &&& 31))) ||| ((((((((4 : Int32) * p0) + (2 : Int32)) / (3 : Int32)) - (1 : Int32)) ||| ((((((4 : Int32) * p0) + (2 : Int32)) / (3 : Int32)) - (1 : Int32)) >>> ((1 : Int32) &&& 31))) ||| (((((((4 : Int32) * p0) + (2 : Int32)) / (3 : Int32)) - (1 : Int32)) ||| ((((((4 : Int32) * p0) + (2 : Int32)) / (3 : Int32)) - (1 : Int32)) >>> ((1 : Int32) &&& 31))) >>> ((2 : Int32) &&& 31))) >>> ((4 : Int32) &&& 31))) ||| (((((((((4 : Int32) * p0) + (2 : Int32)) / (3 : Int32)) - (1 : Int32)) ||| ((((((4 : Int32) * p0) + (2 : Int32)) / (3 : Int32)) - (1 : Int32)) >>> ((1 : Int32) &&& 31))) ||| (((((((4 : Int32) * p0) + (2 : Int32)) / (3 : Int32)) - (1 : Int32)) ||| ((((((4 : Int32) * p0) + (2 : Int32)) / (3 : Int32)) - (1 : Int32)) >>> ((1 : Int32) &&& 31))) >>> ((2 : Int32) &&& 31))) ||| ((((((((4 : Int32) * p0) + (2 : Int32)) / (3 : Int32)) - (1 : Int32)) ||| ((((((4 : Int32) * p0) + (2 : Int32)) / (3 : Int32)) - (1 : Int32)) >>> ((1 : Int32) &&& 31))) ||| (((((((4 : Int32) * p0) + (2 : Int32)) / (3 : Int32)) - (1 : Int32)) ||| ((((((4 : Int32) * p0) + (2 : Int32)) / (3 : Int32)) - (1 : Int32)) >>> ((1 : Int32) &&& 31))) >>> ((2 : Int32) &&& 31))) >>> ((4 : Int32) &&& 31))) >>> ((8 : Int32) &&& 31))) ||| ((((((((((4 : Int32) * p0) + (2 : Int32)) / (3 : Int32)) - (1 : Int32)) ||| ((((((4 : Int32) * p0) + (2 : Int32)) / (3 : Int32)) - (1 : Int32)) >>> ((1 : Int32) &&& 31))) ||| (((((((4 : Int32) * p0) + (2 : Int32)) / (3 : Int32)) - (1 : Int32)) ||| ((((((4 : Int32) * p0) + (2 : Int32)) / (3 : Int32)) - (1 : Int32)) >>> ((1 : Int32) &&& 31))) >>> ((2 : Int32) &&& 31))) ||| ((((((((4 : Int32) * p0) + (2 : Int32)) / (3 : Int32)) - (1 : Int32)) ||| ((((((4 : Int32) * p0) + (2 : Int32)) / (3 : Int32)) - (1 : Int32)) >>> ((1 : Int32) &&& 31))) ||| (((((((4 : Int32) * p0) + (2 : Int32)) / (3 : Int32)) - (1 : Int32)) ||| ((((((4 : Int32) * p0) + (2 : Int32)) / (3 : Int32)) - (1 : Int32)) >>> ((1 : Int32) &&& 31))) >>> ((2 : Int32) &&& 31))) >>> ((4 : Int32) &&& 31))) ||| (((((((((4 : Int32) * p0) + (2 : Int32)) / (3 : Int32)) - (1 : Int32)) ||| ((((((4 : Int32) * p0) + (2 : Int32)) / (3 : Int32)) - (1 : Int32)) >>> ((1 : Int32) &&& 31))) ||| (((((((4 : Int32) * p0) + (2 : Int32)) / (3 : Int32)) - (1 : Int32)) ||| ((((((4 : Int32) * p0) + (2 : Int32)) / (3 : Int32)) - (1 : Int32)) >>> ((1 : Int32) &&& 31))) >>> ((2 : Int32) &&& 31))) ||| ((((((((4 : Int32) * p0) + (2 : Int32)) / (3 : Int32)) - (1 : Int32)) ||| ((((((4 : Int32) * p0) + (2 : Int32)) / (3 : Int32)) - (1 : Int32)) >>> ((1 : Int32) &&& 31))) ||| (((((((4 : Int32) * p0) + (2 : Int32)) / (3 : Int32)) - (1 : Int32)) ||| ((((((4 : Int32) * p0) + (2 : Int32)) / (3 : Int32)) - (1 : Int32)) >>> ((1 : Int32) &&& 31))) >>> ((2 : Int32) &&& 31))) >>> ((4 : Int32) &&& 31))) >>> ((8 : Int32) &&& 31))) >>> ((16 : Int32) &&& 31))) + (1 : Int32)) (16 : Int32)))]))
    refine own_st (fun _ => XS.istoreN X2.here hx rfl (hb hby own_dexp_58) rfl (l' := #[.val (.int p0), .val (.int ((((4 : Int32) * p0) + (2 : Int32)) / (3 : Int32))), .val (.int ((((((((((4 : Int32) * p0) + (2 : Int32)) / (3 : Int32)) - (1 : Int32)) ||| ((((((4 : Int32) * p0) + (2 : Int32)) / (3 : Int32)) - (1 : Int32)) >>> ((1 : Int32) &&& 31))) ||| (((((((4 : Int32) * p0) + (2 : Int32)) / (3 : Int32)) - (1 : Int32)) ||| ((((((4 : Int32) * p0) + (2 : Int32)) / (3 : Int32)) - (1 : Int32)) >>> ((1 : Int32) &&& 31))) >>> ((2 : Int32) &&& 31))) ||| ((((((((4 : Int32) * p0) + (2 : Int32)) / (3 : Int32)) - (1 : Int32)) ||| ((((((4 : Int32) * p0) + (2 : Int32)) / (3 : Int32)) - (1 : Int32)) >>> ((1 : Int32) &&& 31))) ||| (((((((4 : Int32) * p0) + (2 : Int32)) / (3 : Int32)) - (1 : Int32)) ||| ((((((4 : Int32) * p0) + (2 : Int32)) / (3 : Int32)) - (1 : Int32)) >>> ((1 : Int32) &&& 31))) >>> ((2 : Int32) &&& 31))) >>> ((4 : Int32) &&& 31))) ||| (((((((((4 : Int32) * p0) + (2 : Int32)) / (3 : Int32)) - (1 : Int32)) ||| ((((((4 : Int32) * p0) + (2 : Int32)) / (3 : Int32)) - (1 : Int32)) >>> ((1 : Int32) &&& 31))) ||| (((((((4 : Int32) * p0) + (2 : Int32)) / (3 : Int32)) - (1 : Int32)) ||| ((((((4 : Int32) * p0) + (2 : Int32)) / (3 : Int32)) - (1 : Int32)) >>> ((1 : Int32) &&& 31))) >>> ((2 : Int32) &&& 31))) ||| ((((((((4 : Int32) * p0) + (2 : Int32)) / (3 : Int32)) - (1 : Int32)) ||| ((((((4 : Int32) * p0) + (2 : Int32)) / (3 : Int32)) - (1 : Int32)) >>> ((1 : Int32) &&& 31))) ||| (((((((4 : Int32) * p0) + (2 : Int32)) / (3 : Int32)) - (1 : Int32)) ||| ((((((4 : Int32) * p0) + (2 : Int32)) / (3 : Int32)) - (1 : Int32)) >>> ((1 : Int32) &&& 31))) >>> ((2 : Int32) &&& 31))) >>> ((4 : Int32) &&& 31))) >>> ((8 : Int32) &&& 31))) ||| ((((((((((4 : Int32) * p0) + (2 : Int32)) / (3 : Int32)) - (1 : Int32)) ||| ((((((4 : Int32) * p0) + (2 : Int32)) / (3 : Int32)) - (1 : Int32)) >>> ((1 : Int32) &&& 31))) ||| (((((((4 : Int32) * p0) + (2 : Int32)) / (3 : Int32)) - (1 : Int32)) ||| ((((((4 : Int32) * p0) + (2 : Int32)) / (3 : Int32)) - (1 : Int32)) >>> ((1 : Int32) &&& 31))) >>> ((2 : Int32) &&& 31))) ||| ((((((((4 : Int32) * p0) + (2 : Int32)) / (3 : Int32)) - (1 : Int32)) ||| ((((((4 : Int32) * p0) + (2 : Int32)) / (3 : Int32)) - (1 : Int32)) >>> ((1 : Int32) &&& 31))) ||| (((((((4 : Int32) * p0) + (2 : Int32)) / (3 : Int32)) - (1 : Int32)) ||| ((((((4 : Int32) * p0) + (2 : Int32)) / (3 : Int32)) - (1 : Int32)) >>> ((1 : Int32) &&& 31))) >>> ((2 : Int32) &&& 31))) >>> ((4 : Int32) &&& 31))) ||| (((((((((4 : Int32) * p0) + (2 : Int32)) / (3 : Int32)) - (1 : Int32)) ||| ((((((4 : Int32) * p0) + (2 : Int32)) / (3 : Int32)) - (1 : Int32)) >>> ((1 : Int32) &&& 31))) ||| (((((((4 : Int32) * p0) + (2 : Int32)) / (3 : Int32)) - (1 : Int32)) ||| ((((((4 : Int32) * p0) + (2 : Int32)) / (3 : Int32)) - (1 : Int32)) >>> ((1 : Int32) &&& 31))) >>> ((2 : Int32) &&& 31))) ||| ((((((((4 : Int32) * p0) + (2 : Int32)) / (3 : Int32)) - (1 : Int32)) ||| ((((((4 : Int32) * p0) + (2 : Int32)) / (3 : Int32)) - (1 : Int32)) >>> ((1 : Int32) &&& 31))) ||| (((((((4 : Int32) * p0) + (2 : Int32)) / (3 : Int32)) - (1 : Int32)) ||| ((((((4 : Int32) * p0) + (2 : Int32)) / (3 : Int32)) - (1 : Int32)) >>> ((1 : Int32) &&& 31))) >>> ((2 : Int32) &&& 31))) >>> ((4 : Int32) &&& 31))) >>> ((8 : Int32) &&& 31))) >>> ((16 : Int32) &&& 31)))), .val (.int (own_fmax (((((((((((4 : Int32) * p0) + (2 : Int32)) / (3 : Int32)) - (1 : Int32)) ||| ((((((4 : Int32) * p0) + (2 : Int32)) / (3 : Int32)) - (1 : Int32)) >>> ((1 : Int32) &&& 31))) ||| (((((((4 : Int32) * p0) + (2 : Int32)) / (3 : Int32)) - (1 : Int32)) ||| ((((((4 : Int32) * p0) + (2 : Int32)) / (3 : Int32)) - (1 : Int32)) >>> ((1 : Int32) &&& 31))) >>> ((2 : Int32) &&& 31))) ||| ((((((((4 : Int32) * p0) + (2 : Int32)) / (3 : Int32)) - (1 : Int32)) ||| ((((((4 : Int32) * p0) + (2 : Int32)) / (3 : Int32)) - (1 : Int32)) >>> ((1 : Int32) &&& 31))) ||| (((((((4 : Int32) * p0) + (2 : Int32)) / (3 : Int32)) - (1 : Int32)) ||| ((((((4 : Int32) * p0) + (2 : Int32)) / (3 : Int32)) - (1 : Int32)) >>> ((1 : Int32) &&& 31))) >>> ((2 : Int32) &&& 31))) >>> ((4 : Int32) &&& 31))) ||| (((((((((4 : Int32) * p0) + (2 : Int32)) / (3 : Int32)) - (1 : Int32)) ||| ((((((4 : Int32) * p0) + (2 : Int32)) / (3 : Int32)) - (1 : Int32)) >>> ((1 : Int32) &&& 31))) ||| (((((((4 : Int32) * p0) + (2 : Int32)) / (3 : Int32)) - (1 : Int32)) ||| ((((((4 : Int32) * p0) + (2 : Int32)) / (3 : Int32)) - (1 : Int32)) >>> ((1 : Int32) &&& 31))) >>> ((2 : Int32) &&& 31))) ||| ((((((((4 : Int32) * p0) + (2 : Int32)) / (3 : Int32)) - (1 : Int32)) ||| ((((((4 : Int32) * p0) + (2 : Int32)) / (3 : Int32)) - (1 : Int32)) >>> ((1 : Int32) &&& 31))) ||| (((((((4 : Int32) * p0) + (2 : Int32)) / (3 : Int32)) - (1 : Int32)) ||| ((((((4 : Int32) * p0) + (2 : Int32)) / (3 : Int32)) - (1 : Int32)) >>> ((1 : Int32) &&& 31))) >>> ((2 : Int32) &&& 31))) >>> ((4 : Int32) &&& 31))) >>> ((8 : Int32) &&& 31))) ||| ((((((((((4 : Int32) * p0) + (2 : Int32)) / (3 : Int32)) - (1 : Int32)) ||| ((((((4 : Int32) * p0) + (2 : Int32)) / (3 : Int32)) - (1 : Int32)) >>> ((1 : Int32) &&& 31))) ||| (((((((4 : Int32) * p0) + (2 : Int32)) / (3 : Int32)) - (1 : Int32)) ||| ((((((4 : Int32) * p0) + (2 : Int32)) / (3 : Int32)) - (1 : Int32)) >>> ((1 : Int32) &&& 31))) >>> ((2 : Int32) &&& 31))) ||| ((((((((4 : Int32) * p0) + (2 : Int32)) / (3 : Int32)) - (1 : Int32)) ||| ((((((4 : Int32) * p0) + (2 : Int32)) / (3 : Int32)) - (1 : Int32)) >>> ((1 : Int32) &&& 31))) ||| (((((((4 : Int32) * p0) + (2 : Int32)) / (3 : Int32)) - (1 : Int32)) ||| ((((((4 : Int32) * p0) + (2 : Int32)) / (3 : Int32)) - (1 : Int32)) >>> ((1 : Int32) &&& 31))) >>> ((2 : Int32) &&& 31))) >>> ((4 : Int32) &&& 31))) ||| (((((((((4 : Int32) * p0) + (2 : Int32)) / (3 : Int32)) - (1 : Int32)) ||| ((((((4 : Int32) * p0) + (2 : Int32)) / (3 : Int32)) - (1 : Int32)) >>> ((1 : Int32) &&& 31))) ||| (((((((4 : Int32) * p0) + (2 : Int32)) / (3 : Int32)) - (1 : Int32)) ||| ((((((4 : Int32) * p0) + (2 : Int32)) / (3 : Int32)) - (1 : Int32)) >>> ((1 : Int32) &&& 31))) >>> ((2 : Int32) &&& 31))) ||| ((((((((4 : Int32) * p0) + (2 : Int32)) / (3 : Int32)) - (1 : Int32)) ||| ((((((4 : Int32) * p0) + (2 : Int32)) / (3 : Int32)) - (1 : Int32)) >>> ((1 : Int32) &&& 31))) ||| (((((((4 : Int32) * p0) + (2 : Int32)) / (3 : Int32)) - (1 : Int32)) ||| ((((((4 : Int32) * p0) + (2 : Int32)) / (3 : Int32)) - (1 : Int32)) >>> ((1 : Int32) &&& 31))) >>> ((2 : Int32) &&& 31))) >>> ((4 : Int32) &&& 31))) >>> ((8 : Int32) &&& 31))) >>> ((16 : Int32) &&& 31))) + (1 : Int32)) (16 : Int32)))]) rfl) ?_
    show own_End p e below P (T2.setTop (mkF m 59 #[.val (.int p0), .val (.int ((((4 : Int32) * p0) + (2 : Int32)) / (3 : Int32))), .val (.int ((((((((((4 : Int32) * p0) + (2 : Int32)) / (3 : Int32)) - (1 : Int32)) ||| ((((((4 : Int32) * p0) + (2 : Int32)) / (3 : Int32)) - (1 : Int32)) >>> ((1 : Int32) &&& 31))) ||| (((((((4 : Int32) * p0) + (2 : Int32)) / (3 : Int32)) - (1 : Int32)) ||| ((((((4 : Int32) * p0) + (2 : Int32)) / (3 : Int32)) - (1 : Int32)) >>> ((1 : Int32) &&& 31))) >>> ((2 : Int32) &&& 31))) ||| ((((((((4 : Int32) * p0) + (2 : Int32)) / (3 : Int32)) - (1 : Int32)) ||| ((((((4 : Int32) * p0) + (2 : Int32)) / (3 : Int32)) - (1 : Int32)) >>> ((1 : Int32) &&& 31))) ||| (((((((4 : Int32) * p0) + (2 : Int32)) / (3 : Int32)) - (1 : Int32)) ||| ((((((4 : Int32) * p0) + (2 : Int32)) / (3 : Int32)) - (1 : Int32)) >>> ((1 : Int32) &&& 31))) >>> ((2 : Int32) &&& 31))) >>> ((4 : Int32) &&& 31))) ||| (((((((((4 : Int32) * p0) + (2 : Int32)) / (3 : Int32)) - (1 : Int32)) ||| ((((((4 : Int32) * p0) + (2 : Int32)) / (3 : Int32)) - (1 : Int32)) >>> ((1 : Int32) &&& 31))) ||| (((((((4 : Int32) * p0) + (2 : Int32)) / (3 : Int32)) - (1 : Int32)) ||| ((((((4 : Int32) * p0) + (2 : Int32)) / (3 : Int32)) - (1 : Int32)) >>> ((1 : Int32) &&& 31))) >>> ((2 : Int32) &&& 31))) ||| ((((((((4 : Int32) * p0) + (2 : Int32)) / (3 : Int32)) - (1 : Int32)) ||| ((((((4 : Int32) * p0) + (2 : Int32)) / (3 : Int32)) - (1 : Int32)) >>> ((1 : Int32) &&& 31))) ||| (((((((4 : Int32) * p0) + (2 : Int32)) / (3 : Int32)) - (1 : Int32)) ||| ((((((4 : Int32) * p0) + (2 : Int32)) / (3 : Int32)) - (1 : Int32)) >>> ((1 : Int32) &&& 31))) >>> ((2 : Int32) &&& 31))) >>> ((4 : Int32) &&& 31))) >>> ((8 : Int32) &&& 31))) ||| ((((((((((4 : Int32) * p0) + (2 : Int32)) / (3 : Int32)) - (1 : Int32)) ||| ((((((4 : Int32) * p0) + (2 : Int32)) / (3 : Int32)) - (1 : Int32)) >>> ((1 : Int32) &&& 31))) ||| (((((((4 : Int32) * p0) + (2 : Int32)) / (3 : Int32)) - (1 : Int32)) ||| ((((((4 : Int32) * p0) + (2 : Int32)) / (3 : Int32)) - (1 : Int32)) >>> ((1 : Int32) &&& 31))) >>> ((2 : Int32) &&& 31))) ||| ((((((((4 : Int32) * p0) + (2 : Int32)) / (3 : Int32)) - (1 : Int32)) ||| ((((((4 : Int32) * p0) + (2 : Int32)) / (3 : Int32)) - (1 : Int32)) >>> ((1 : Int32) &&& 31))) ||| (((((((4 : Int32) * p0) + (2 : Int32)) / (3 : Int32)) - (1 : Int32)) ||| ((((((4 : Int32) * p0) + (2 : Int32)) / (3 : Int32)) - (1 : Int32)) >>> ((1 : Int32) &&& 31))) >>> ((2 : Int32) &&& 31))) >>> ((4 : Int32) &&& 31))) ||| (((((((((4 : Int32) * p0) + (2 : Int32)) / (3 : Int32)) - (1 : Int32)) ||| ((((((4 : Int32) * p0) + (2 : Int32)) / (3 : Int32)) - (1 : Int32)) >>> ((1 : Int32) &&& 31))) ||| (((((((4 : Int32) * p0) + (2 : Int32)) / (3 : Int32)) - (1 : Int32)) ||| ((((((4 : Int32) * p0) + (2 : Int32)) / (3 : Int32)) - (1 : Int32)) >>> ((1 : Int32) &&& 31))) >>> ((2 : Int32) &&& 31))) ||| ((((((((4 : Int32) * p0) + (2 : Int32)) / (3 : Int32)) - (1 : Int32)) ||| ((((((4 : Int32) * p0) + (2 : Int32)) / (3 : Int32)) - (1 : Int32)) >>> ((1 : Int32) &&& 31))) ||| (((((((4 : Int32) * p0) + (2 : Int32)) / (3 : Int32)) - (1 : Int32)) ||| ((((((4 : Int32) * p0) + (2 : Int32)) / (3 : Int32)) - (1 : Int32)) >>> ((1 : Int32) &&& 31))) >>> ((2 : Int32) &&& 31))) >>> ((4 : Int32) &&& 31))) >>> ((8 : Int32) &&& 31))) >>> ((16 : Int32) &&& 31)))), .val (.int (own_fmax (((((((((((4 : Int32) * p0) + (2 : Int32)) / (3 : Int32)) - (1 : Int32)) ||| ((((((4 : Int32) * p0) + (2 : Int32)) / (3 : Int32)) - (1 : Int32)) >>> ((1 : Int32) &&& 31))) ||| (((((((4 : Int32) * p0) + (2 : Int32)) / (3 : Int32)) - (1 : Int32)) ||| ((((((4 : Int32) * p0) + (2 : Int32)) / (3 : Int32)) - (1 : Int32)) >>> ((1 : Int32) &&& 31))) >>> ((2 : Int32) &&& 31))) ||| ((((((((4 : Int32) * p0) + (2 : Int32)) / (3 : Int32)) - (1 : Int32)) ||| ((((((4 : Int32) * p0) + (2 : Int32)) / (3 : Int32)) - (1 : Int32)) >>> ((1 : Int32) &&& 31))) ||| (((((((4 : Int32) * p0) + (2 : Int32)) / (3 : Int32)) - (1 : Int32)) ||| ((((((4 : Int32) * p0) + (2 : Int32)) / (3 : Int32)) - (1 : Int32)) >>> ((1 : Int32) &&& 31))) >>> ((2 : Int32) &&& 31))) >>> ((4 : Int32) &&& 31))) ||| (((((((((4 : Int32) * p0) + (2 : Int32)) / (3 : Int32)) - (1 : Int32)) ||| ((((((4 : Int32) * p0) + (2 : Int32)) / (3 : Int32)) - (1 : Int32)) >>> ((1 : Int32) &&& 31))) ||| (((((((4 : Int32) * p0) + (2 : Int32)) / (3 : Int32)) - (1 : Int32)) ||| ((((((4 : Int32) * p0) + (2 : Int32)) / (3 : Int32)) - (1 : Int32)) >>> ((1 : Int32) &&& 31))) >>> ((2 : Int32) &&& 31))) ||| ((((((((4 : Int32) * p0) + (2 : Int32)) / (3 : Int32)) - (1 : Int32)) ||| ((((((4 : Int32) * p0) + (2 : Int32)) / (3 : Int32)) - (1 : Int32)) >>> ((1 : Int32) &&& 31))) ||| (((((((4 : Int32) * p0) + (2 : Int32)) / (3 : Int32)) - (1 : Int32)) ||| ((((((4 : Int32) * p0) + (2 : Int32)) / (3 : Int32)) - (1 : Int32)) >>> ((1 : Int32) &&& 31))) >>> ((2 : Int32) &&& 31))) >>> ((4 : Int32) &&& 31))) >>> ((8 : Int32) &&& 31))) ||| ((((((((((4 : Int32) * p0) + (2 : Int32)) / (3 : Int32)) - (1 : Int32)) ||| ((((((4 : Int32) * p0) + (2 : Int32)) / (3 : Int32)) - (1 : Int32)) >>> ((1 : Int32) &&& 31))) ||| (((((((4 : Int32) * p0) + (2 : Int32)) / (3 : Int32)) - (1 : Int32)) ||| ((((((4 : Int32) * p0) + (2 : Int32)) / (3 : Int32)) - (1 : Int32)) >>> ((1 : Int32) &&& 31))) >>> ((2 : Int32) &&& 31))) ||| ((((((((4 : Int32) * p0) + (2 : Int32)) / (3 : Int32)) - (1 : Int32)) ||| ((((((4 : Int32) * p0) + (2 : Int32)) / (3 : Int32)) - (1 : Int32)) >>> ((1 : Int32) &&& 31))) ||| (((((((4 : Int32) * p0) + (2 : Int32)) / (3 : Int32)) - (1 : Int32)) ||| ((((((4 : Int32) * p0) + (2 : Int32)) / (3 : Int32)) - (1 : Int32)) >>> ((1 : Int32) &&& 31))) >>> ((2 : Int32) &&& 31))) >>> ((4 : Int32) &&& 31))) ||| (((((((((4 : Int32) * p0) + (2 : Int32)) / (3 : Int32)) - (1 : Int32)) ||| ((((((4 : Int32) * p0) + (2 : Int32)) / (3 : Int32)) - (1 : Int32)) >>> ((1 : Int32) &&& 31))) ||| (((((((4 : Int32) * p0) + (2 : Int32)) / (3 : Int32)) - (1 : Int32)) ||| ((((((4 : Int32) * p0) + (2 : Int32)) / (3 : Int32)) - (1 : Int32)) >>> ((1 : Int32) &&& 31))) >>> ((2 : Int32) &&& 31))) ||| ((((((((4 : Int32) * p0) + (2 : Int32)) / (3 : Int32)) - (1 : Int32)) ||| ((((((4 : Int32) * p0) + (2 : Int32)) / (3 : Int32)) - (1 : Int32)) >>> ((1 : Int32) &&& 31))) ||| (((((((4 : Int32) * p0) + (2 : Int32)) / (3 : Int32)) - (1 : Int32)) ||| ((((((4 : Int32) * p0) + (2 : Int32)) / (3 : Int32)) - (1 : Int32)) >>> ((1 : Int32) &&& 31))) >>> ((2 : Int32) &&& 31))) >>> ((4 : Int32) &&& 31))) >>> ((8 : Int32) &&& 31))) >>> ((16 : Int32) &&& 31))) + (1 : Int32)) (16 : Int32)))] []))
    refine own_st (fun _ => X2.ldc2Long hx hown (mvT hZ (hw _ (List.mem_of_getElem? (i := 53) rfl))) (g := (mkF m 59 #[.val (.int p0), .val (.int ((((4 : Int32) * p0) + (2 : Int32)) / (3 : Int32))), .val (.int ((((((((((4 : Int32) * p0) + (2 : Int32)) / (3 : Int32)) - (1 : Int32)) ||| ((((((4 : Int32) * p0) + (2 : Int32)) / (3 : Int32)) - (1 : Int32)) >>> ((1 : Int32) &&& 31))) ||| (((((((4 : Int32) * p0) + (2 : Int32)) / (3 : Int32)) - (1 : Int32)) ||| ((((((4 : Int32) * p0) + (2 : Int32)) / (3 : Int32)) - (1 : Int32)) >>> ((1 : Int32) &&& 31))) >>> ((2 : Int32) &&& 31))) ||| ((((((((4 : Int32) * p0) + (2 : Int32)) / (3 : Int32)) - (1 : Int32)) ||| ((((((4 : Int32) * p0) + (2 : Int32)) / (3 : Int32)) - (1 : Int32)) >>> ((1 : Int32) &&& 31))) ||| (((((((4 : Int32) * p0) + (2 : Int32)) / (3 : Int32)) - (1 : Int32)) ||| ((((((4 : Int32) * p0) + (2 : Int32)) / (3 : Int32)) - (1 : Int32)) >>> ((1 : Int32) &&& 31))) >>> ((2 : Int32) &&& 31))) >>> ((4 : Int32) &&& 31))) ||| (((((((((4 : Int32) * p0) + (2 : Int32)) / (3 : Int32)) - (1 : Int32)) ||| ((((((4 : Int32) * p0) + (2 : Int32)) / (3 : Int32)) - (1 : Int32)) >>> ((1 : Int32) &&& 31))) ||| (((((((4 : Int32) * p0) + (2 : Int32)) / (3 : Int32)) - (1 : Int32)) ||| ((((((4 : Int32) * p0) + (2 : Int32)) / (3 : Int32)) - (1 : Int32)) >>> ((1 : Int32) &&& 31))) >>> ((2 : Int32) &&& 31))) ||| ((((((((4 : Int32) * p0) + (2 : Int32)) / (3 : Int32)) - (1 : Int32)) ||| ((((((4 : Int32) * p0) + (2 : Int32)) / (3 : Int32)) - (1 : Int32)) >>> ((1 : Int32) &&& 31))) ||| (((((((4 : Int32) * p0) + (2 : Int32)) / (3 : Int32)) - (1 : Int32)) ||| ((((((4 : Int32) * p0) + (2 : Int32)) / (3 : Int32)) - (1 : Int32)) >>> ((1 : Int32) &&& 31))) >>> ((2 : Int32) &&& 31))) >>> ((4 : Int32) &&& 31))) >>> ((8 : Int32) &&& 31))) ||| ((((((((((4 : Int32) * p0) + (2 : Int32)) / (3 : Int32)) - (1 : Int32)) ||| ((((((4 : Int32) * p0) + (2 : Int32)) / (3 : Int32)) - (1 : Int32)) >>> ((1 : Int32) &&& 31))) ||| (((((((4 : Int32) * p0) + (2 : Int32)) / (3 : Int32)) - (1 : Int32)) ||| ((((((4 : Int32) * p0) + (2 : Int32)) / (3 : Int32)) - (1 : Int32)) >>> ((1 : Int32) &&& 31))) >>> ((2 : Int32) &&& 31))) ||| ((((((((4 : Int32) * p0) + (2 : Int32)) / (3 : Int32)) - (1 : Int32)) ||| ((((((4 : Int32) * p0) + (2 : Int32)) / (3 : Int32)) - (1 : Int32)) >>> ((1 : Int32) &&& 31))) ||| (((((((4 : Int32) * p0) + (2 : Int32)) / (3 : Int32)) - (1 : Int32)) ||| ((((((4 : Int32) * p0) + (2 : Int32)) / (3 : Int32)) - (1 : Int32)) >>> ((1 : Int32) &&& 31))) >>> ((2 : Int32) &&& 31))) >>> ((4 : Int32) &&& 31))) ||| (((((((((4 : Int32) * p0) + (2 : Int32)) / (3 : Int32)) - (1 : Int32)) ||| ((((((4 : Int32) * p0) + (2 : Int32)) / (3 : Int32)) - (1 : Int32)) >>> ((1 : Int32) &&& 31))) ||| (((((((4 : Int32) * p0) + (2 : Int32)) / (3 : Int32)) - (1 : Int32)) ||| ((((((4 : Int32) * p0) + (2 : Int32)) / (3 : Int32)) - (1 : Int32)) >>> ((1 : Int32) &&& 31))) >>> ((2 : Int32) &&& 31))) ||| ((((((((4 : Int32) * p0) + (2 : Int32)) / (3 : Int32)) - (1 : Int32)) ||| ((((((4 : Int32) * p0) + (2 : Int32)) / (3 : Int32)) - (1 : Int32)) >>> ((1 : Int32) &&& 31))) ||| (((((((4 : Int32) * p0) + (2 : Int32)) / (3 : Int32)) - (1 : Int32)) ||| ((((((4 : Int32) * p0) + (2 : Int32)) / (3 : Int32)) - (1 : Int32)) >>> ((1 : Int32) &&& 31))) >>> ((2 : Int32) &&& 31))) >>> ((4 : Int32) &&& 31))) >>> ((8 : Int32) &&& 31))) >>> ((16 : Int32) &&& 31)))), .val (.int (own_fmax (((((((((((4 : Int32) * p0) + (2 : Int32)) / (3 : Int32)) - (1 : Int32)) ||| ((((((4 : Int32) * p0) + (2 : Int32)) / (3 : Int32)) - (1 : Int32)) >>> ((1 : Int32) &&& 31))) ||| (((((((4 : Int32) * p0) + (2 : Int32)) / (3 : Int32)) - (1 : Int32)) ||| ((((((4 : Int32) * p0) + (2 : Int32)) / (3 : Int32)) - (1 : Int32)) >>> ((1 : Int32) &&& 31))) >>> ((2 : Int32) &&& 31))) ||| ((((((((4 : Int32) * p0) + (2 : Int32)) / (3 : Int32)) - (1 : Int32)) ||| ((((((4 : Int32) * p0) + (2 : Int32)) / (3 : Int32)) - (1 : Int32)) >>> ((1 : Int32) &&& 31))) ||| (((((((4 : Int32) * p0) + (2 : Int32)) / (3 : Int32)) - (1 : Int32)) ||| ((((((4 : Int32) * p0) + (2 : Int32)) / (3 : Int32)) - (1 : Int32)) >>> ((1 : Int32) &&& 31))) >>> ((2 : Int32) &&& 31))) >>> ((4 : Int32) &&& 31))) ||| (((((((((4 : Int32) * p0) + (2 : Int32)) / (3 : Int32)) - (1 : Int32)) ||| ((((((4 : Int32) * p0) + (2 : Int32)) / (3 : Int32)) - (1 : Int32)) >>> ((1 : Int32) &&& 31))) ||| (((((((4 : Int32) * p0) + (2 : Int32)) / (3 : Int32)) - (1 : Int32)) ||| ((((((4 : Int32) * p0) + (2 : Int32)) / (3 : Int32)) - (1 : Int32)) >>> ((1 : Int32) &&& 31))) >>> ((2 : Int32) &&& 31))) ||| ((((((((4 : Int32) * p0) + (2 : Int32)) / (3 : Int32)) - (1 : Int32)) ||| ((((((4 : Int32) * p0) + (2 : Int32)) / (3 : Int32)) - (1 : Int32)) >>> ((1 : Int32) &&& 31))) ||| (((((((4 : Int32) * p0) + (2 : Int32)) / (3 : Int32)) - (1 : Int32)) ||| ((((((4 : Int32) * p0) + (2 : Int32)) / (3 : Int32)) - (1 : Int32)) >>> ((1 : Int32) &&& 31))) >>> ((2 : Int32) &&& 31))) >>> ((4 : Int32) &&& 31))) >>> ((8 : Int32) &&& 31))) ||| ((((((((((4 : Int32) * p0) + (2 : Int32)) / (3 : Int32)) - (1 : Int32)) ||| ((((((4 : Int32) * p0) + (2 : Int32)) / (3 : Int32)) - (1 : Int32)) >>> ((1 : Int32) &&& 31))) ||| (((((((4 : Int32) * p0) + (2 : Int32)) / (3 : Int32)) - (1 : Int32)) ||| ((((((4 : Int32) * p0) + (2 : Int32)) / (3 : Int32)) - (1 : Int32)) >>> ((1 : Int32) &&& 31))) >>> ((2 : Int32) &&& 31))) ||| ((((((((4 : Int32) * p0) + (2 : Int32)) / (3 : Int32)) - (1 : Int32)) ||| ((((((4 : Int32) * p0) + (2 : Int32)) / (3 : Int32)) - (1 : Int32)) >>> ((1 : Int32) &&& 31))) ||| (((((((4 : Int32) * p0) + (2 : Int32)) / (3 : Int32)) - (1 : Int32)) ||| ((((((4 : Int32) * p0) + (2 : Int32)) / (3 : Int32)) - (1 : Int32)) >>> ((1 : Int32) &&& 31))) >>> ((2 : Int32) &&& 31))) >>> ((4 : Int32) &&& 31))) ||| (((((((((4 : Int32) * p0) + (2 : Int32)) / (3 : Int32)) - (1 : Int32)) ||| ((((((4 : Int32) * p0) + (2 : Int32)) / (3 : Int32)) - (1 : Int32)) >>> ((1 : Int32) &&& 31))) ||| (((((((4 : Int32) * p0) + (2 : Int32)) / (3 : Int32)) - (1 : Int32)) ||| ((((((4 : Int32) * p0) + (2 : Int32)) / (3 : Int32)) - (1 : Int32)) >>> ((1 : Int32) &&& 31))) >>> ((2 : Int32) &&& 31))) ||| ((((((((4 : Int32) * p0) + (2 : Int32)) / (3 : Int32)) - (1 : Int32)) ||| ((((((4 : Int32) * p0) + (2 : Int32)) / (3 : Int32)) - (1 : Int32)) >>> ((1 : Int32) &&& 31))) ||| (((((((4 : Int32) * p0) + (2 : Int32)) / (3 : Int32)) - (1 : Int32)) ||| ((((((4 : Int32) * p0) + (2 : Int32)) / (3 : Int32)) - (1 : Int32)) >>> ((1 : Int32) &&& 31))) >>> ((2 : Int32) &&& 31))) >>> ((4 : Int32) &&& 31))) >>> ((8 : Int32) &&& 31))) >>> ((16 : Int32) &&& 31))) + (1 : Int32)) (16 : Int32)))] [])) rfl (hb hby own_dexp_59) _) ?_
    show own_End p e below P (T2.setTop (mkF m 62 #[.val (.int p0), .val (.int ((((4 : Int32) * p0) + (2 : Int32)) / (3 : Int32))), .val (.int ((((((((((4 : Int32) * p0) + (2 : Int32)) / (3 : Int32)) - (1 : Int32)) ||| ((((((4 : Int32) * p0) + (2 : Int32)) / (3 : Int32)) - (1 : Int32)) >>> ((1 : Int32) &&& 31))) ||| (((((((4 : Int32) * p0) + (2 : Int32)) / (3 : Int32)) - (1 : Int32)) ||| ((((((4 : Int32) * p0) + (2 : Int32)) / (3 : Int32)) - (1 : Int32)) >>> ((1 : Int32) &&& 31))) >>> ((2 : Int32) &&& 31))) ||| ((((((((4 : Int32) * p0) + (2 : Int32)) / (3 : Int32)) - (1 : Int32)) ||| ((((((4 : Int32) * p0) + (2 : Int32)) / (3 : Int32)) - (1 : Int32)) >>> ((1 : Int32) &&& 31))) ||| (((((((4 : Int32) * p0) + (2 : Int32)) / (3 : Int32)) - (1 : Int32)) ||| ((((((4 : Int32) * p0) + (2 : Int32)) / (3 : Int32)) - (1 : Int32)) >>> ((1 : Int32) &&& 31))) >>> ((2 : Int32) &&& 31))) >>> ((4 : Int32) &&& 31))) ||| (((((((((4 : Int32) * p0) + (2 : Int32)) / (3 : Int32)) - (1 : Int32)) ||| ((((((4 : Int32) * p0) + (2 : Int32)) / (3 : Int32)) - (1 : Int32)) >>> ((1 : Int32) &&& 31))) ||| (((((((4 : Int32) * p0) + (2 : Int32)) / (3 : Int32)) - (1 : Int32)) ||| ((((((4 : Int32) * p0) + (2 : Int32)) / (3 : Int32)) - (1 : Int32)) >>> ((1 : Int32) &&& 31))) >>> ((2 : Int32) &&& 31))) ||| ((((((((4 : Int32) * p0) + (2 : Int32)) / (3 : Int32)) - (1 : Int32)) ||| ((((((4 : Int32) * p0) + (2 : Int32)) / (3 : Int32)) - (1 : Int32)) >>> ((1 : Int32) &&& 31))) ||| (((((((4 : Int32) * p0) + (2 : Int32)) / (3 : Int32)) - (1 : Int32)) ||| ((((((4 : Int32) * p0) + (2 : Int32)) / (3 : Int32)) - (1 : Int32)) >>> ((1 : Int32) &&& 31))) >>> ((2 : Int32) &&& 31))) >>> ((4 : Int32) &&& 31))) >>> ((8 : Int32) &&& 31))) ||| ((((((((((4 : Int32) * p0) + (2 : Int32)) / (3 : Int32)) - (1 : Int32)) ||| ((((((4 : Int32) * p0) + (2 : Int32)) / (3 : Int32)) - (1 : Int32)) >>> ((1 : Int32) &&& 31))) ||| (((((((4 : Int32) * p0) + (2 : Int32)) / (3 : Int32)) - (1 : Int32)) ||| ((((((4 : Int32) * p0) + (2 : Int32)) / (3 : Int32)) - (1 : Int32)) >>> ((1 : Int32) &&& 31))) >>> ((2 : Int32) &&& 31))) ||| ((((((((4 : Int32) * p0) + (2 : Int32)) / (3 : Int32)) - (1 : Int32)) ||| ((((((4 : Int32) * p0) + (2 : Int32)) / (3 : Int32)) - (1 : Int32)) >>> ((1 : Int32) &&& 31))) ||| (((((((4 : Int32) * p0) + (2 : Int32)) / (3 : Int32)) - (1 : Int32)) ||| ((((((4 : Int32) * p0) + (2 : Int32)) / (3 : Int32)) - (1 : Int32)) >>> ((1 : Int32) &&& 31))) >>> ((2 : Int32) &&& 31))) >>> ((4 : Int32) &&& 31))) ||| (((((((((4 : Int32) * p0) + (2 : Int32)) / (3 : Int32)) - (1 : Int32)) ||| ((((((4 : Int32) * p0) + (2 : Int32)) / (3 : Int32)) - (1 : Int32)) >>> ((1 : Int32) &&& 31))) ||| (((((((4 : Int32) * p0) + (2 : Int32)) / (3 : Int32)) - (1 : Int32)) ||| ((((((4 : Int32) * p0) + (2 : Int32)) / (3 : Int32)) - (1 : Int32)) >>> ((1 : Int32) &&& 31))) >>> ((2 : Int32) &&& 31))) ||| ((((((((4 : Int32) * p0) + (2 : Int32)) / (3 : Int32)) - (1 : Int32)) ||| ((((((4 : Int32) * p0) + (2 : Int32)) / (3 : Int32)) - (1 : Int32)) >>> ((1 : Int32) &&& 31))) ||| (((((((4 : Int32) * p0) + (2 : Int32)) / (3 : Int32)) - (1 : Int32)) ||| ((((((4 : Int32) * p0) + (2 : Int32)) / (3 : Int32)) - (1 : Int32)) >>> ((1 : Int32) &&& 31))) >>> ((2 : Int32) &&& 31))) >>> ((4 : Int32) &&& 31))) >>> ((8 : Int32) &&& 31))) >>> ((16 : Int32) &&& 31)))), .val (.int (own_fmax (((((((((((4 : Int32) * p0) + (2 : Int32)) / (3 : Int32)) - (1 : Int32)) ||| ((((((4 : Int32) * p0) + (2 : Int32)) / (3 : Int32)) - (1 : Int32)) >>> ((1 : Int32) &&& 31))) ||| (((((((4 : Int32) * p0) + (2 : Int32)) / (3 : Int32)) - (1 : Int32)) ||| ((((((4 : Int32) * p0) + (2 : Int32)) / (3 : Int32)) - (1 : Int32)) >>> ((1 : Int32) &&& 31))) >>> ((2 : Int32) &&& 31))) ||| ((((((((4 : Int32) * p0) + (2 : Int32)) / (3 : Int32)) - (1 : Int32)) ||| ((((((4 : Int32) * p0) + (2 : Int32)) / (3 : Int32)) - (1 : Int32)) >>> ((1 : Int32) &&& 31))) ||| (((((((4 : Int32) * p0) + (2 : Int32)) / (3 : Int32)) - (1 : Int32)) ||| ((((((4 : Int32) * p0) + (2 : Int32)) / (3 : Int32)) - (1 : Int32)) >>> ((1 : Int32) &&& 31))) >>> ((2 : Int32) &&& 31))) >>> ((4 : Int32) &&& 31))) ||| (((((((((4 : Int32) * p0) + (2 : Int32)) / (3 : Int32)) - (1 : Int32)) ||| ((((((4 : Int32) * p0) + (2 : Int32)) / (3 : Int32)) - (1 : Int32)) >>> ((1 : Int32) &&& 31))) ||| (((((((4 : Int32) * p0) + (2 : Int32)) / (3 : Int32)) - (1 : Int32)) ||| ((((((4 : Int32) * p0) + (2 : Int32)) / (3 : Int32)) - (1 : Int32)) >>> ((1 : Int32) &&& 31))) >>> ((2 : Int32) &&& 31))) ||| ((((((((4 : Int32) * p0) + (2 : Int32)) / (3 : Int32)) - (1 : Int32)) ||| ((((((4 : Int32) * p0) + (2 : Int32)) / (3 : Int32)) - (1 : Int32)) >>> ((1 : Int32) &&& 31))) ||| (((((((4 : Int32) * p0) + (2 : Int32)) / (3 : Int32)) - (1 : Int32)) ||| ((((((4 : Int32) * p0) + (2 : Int32)) / (3 : Int32)) - (1 : Int32)) >>> ((1 : Int32) &&& 31))) >>> ((2 : Int32) &&& 31))) >>> ((4 : Int32) &&& 31))) >>> ((8 : Int32) &&& 31))) ||| ((((((((((4 : Int32) * p0) + (2 : Int32)) / (3 : Int32)) - (1 : Int32)) ||| ((((((4 : Int32) * p0) + (2 : Int32)) / (3 : Int32)) - (1 : Int32)) >>> ((1 : Int32) &&& 31))) ||| (((((((4 : Int32) * p0) + (2 : Int32)) / (3 : Int32)) - (1 : Int32)) ||| ((((((4 : Int32) * p0) + (2 : Int32)) / (3 : Int32)) - (1 : Int32)) >>> ((1 : Int32) &&& 31))) >>> ((2 : Int32) &&& 31))) ||| ((((((((4 : Int32) * p0) + (2 : Int32)) / (3 : Int32)) - (1 : Int32)) ||| ((((((4 : Int32) * p0) + (2 : Int32)) / (3 : Int32)) - (1 : Int32)) >>> ((1 : Int32) &&& 31))) ||| (((((((4 : Int32) * p0) + (2 : Int32)) / (3 : Int32)) - (1 : Int32)) ||| ((((((4 : Int32) * p0) + (2 : Int32)) / (3 : Int32)) - (1 : Int32)) >>> ((1 : Int32) &&& 31))) >>> ((2 : Int32) &&& 31))) >>> ((4 : Int32) &&& 31))) ||| (((((((((4 : Int32) * p0) + (2 : Int32)) / (3 : Int32)) - (1 : Int32)) ||| ((((((4 : Int32) * p0) + (2 : Int32)) / (3 : Int32)) - (1 : Int32)) >>> ((1 : Int32) &&& 31))) ||| (((((((4 : Int32) * p0) + (2 : Int32)) / (3 : Int32)) - (1 : Int32)) ||| ((((((4 : Int32) * p0) + (2 : Int32)) / (3 : Int32)) - (1 : Int32)) >>> ((1 : Int32) &&& 31))) >>> ((2 : Int32) &&& 31))) ||| ((((((((4 : Int32) * p0) + (2 : Int32)) / (3 : Int32)) - (1 : Int32)) ||| ((((((4 : Int32) * p0) + (2 : Int32)) / (3 : Int32)) - (1 : Int32)) >>> ((1 : Int32) &&& 31))) ||| (((((((4 : Int32) * p0) + (2 : Int32)) / (3 : Int32)) - (1 : Int32)) ||| ((((((4 : Int32) * p0) + (2 : Int32)) / (3 : Int32)) - (1 : Int32)) >>> ((1 : Int32) &&& 31))) >>> ((2 : Int32) &&& 31))) >>> ((4 : Int32) &&& 31))) >>> ((8 : Int32) &&& 31))) >>> ((16 : Int32) &&& 31))) + (1 : Int32)) (16 : Int32)))] [(.long (16 : Int64))]))
    refine own_st (fun _ => XS.iloadN X2.here hx rfl (hb hby own_dexp_62) rfl) ?_
    show own_End p e below P (T2.setTop (mkF m 63 #[.val (.int p0), .val (.int ((((4 : Int32) * p0) + (2 : Int32)) / (3 : Int32))), .val (.int ((((((((((4 : Int32) * p0) + (2 : Int32)) / (3 : Int32)) - (1 : Int32)) ||| ((((((4 : Int32) * p0) + (2 : Int32)) / (3 : Int32)) - (1 : Int32)) >>> ((1 : Int32) &&& 31))) ||| (((((((4 : Int32) * p0) + (2 : Int32)) / (3 : Int32)) - (1 : Int32)) ||| ((((((4 : Int32) * p0) + (2 : Int32)) / (3 : Int32)) - (1 : Int32)) >>> ((1 : Int32) &&& 31))) >>> ((2 : Int32) &&& 31))) ||| ((((((((4 : Int32) * p0) + (2 : Int32)) / (3 : Int32)) - (1 : Int32)) ||| ((((((4 : Int32) * p0) + (2 : Int32)) / (3 : Int32)) - (1 : Int32)) >>> ((1 : Int32) &&& 31))) ||| (((((((4 : Int32) * p0) + (2 : Int32)) / (3 : Int32)) - (1 : Int32)) ||| ((((((4 : Int32) * p0) + (2 : Int32)) / (3 : Int32)) - (1 : Int32)) >>> ((1 : Int32) &&& 31))) >>> ((2 : Int32) &&& 31))) >>> ((4 : Int32) &&& 31))) ||| (((((((((4 : Int32) * p0) + (2 : Int32)) / (3 : Int32)) - (1 : Int32)) ||| ((((((4 : Int32) * p0) + (2 : Int32)) / (3 : Int32)) - (1 : Int32)) >>> ((1 : Int32) &&& 31))) ||| (((((((4 : Int32) * p0) + (2 : Int32)) / (3 : Int32)) - (1 : Int32)) ||| ((((((4 : Int32) * p0) + (2 : Int32)) / (3 : Int32)) - (1 : Int32)) >>> ((1 : Int32) &&& 31))) >>> ((2 : Int32) &&& 31))) ||| ((((((((4 : Int32) * p0) + (2 : Int32)) / (3 : Int32)) - (1 : Int32)) ||| ((((((4 : Int32) * p0) + (2 : Int32)) / (3 : Int32)) - (1 : Int32)) >>> ((1 : Int32) &&& 31))) ||| (((((((4 : Int32) * p0) + (2 : Int32)) / (3 : Int32)) - (1 : Int32)) ||| ((((((4 : Int32) * p0) + (2 : Int32)) / (3 : Int32)) - (1 : Int32)) >>> ((1 : Int32) &&& 31))) >>> ((2 : Int32) &&& 31))) >>> ((4 : Int32) &&& 31))) >>> ((8 : Int32) &&& 31))) ||| ((((((((((4 : Int32) * p0) + (2 : Int32)) / (3 : Int32)) - (1 : Int32)) ||| ((((((4 : Int32) * p0) + (2 : Int32)) / (3 : Int32)) - (1 : Int32)) >>> ((1 : Int32) &&& 31))) ||| (((((((4 : Int32) * p0) + (2 : Int32)) / (3 : Int32)) - (1 : Int32)) ||| ((((((4 : Int32) * p0) + (2 : Int32)) / (3 : Int32)) - (1 : Int32)) >>> ((1 : Int32) &&& 31))) >>> ((2 : Int32) &&& 31))) ||| ((((((((4 : Int32) * p0) + (2 : Int32)) / (3 : Int32)) - (1 : Int32)) ||| ((((((4 : Int32) * p0) + (2 : Int32)) / (3 : Int32)) - (1 : Int32)) >>> ((1 : Int32) &&& 31))) ||| (((((((4 : Int32) * p0) + (2 : Int32)) / (3 : Int32)) - (1 : Int32)) ||| ((((((4 : Int32) * p0) + (2 : Int32)) / (3 : Int32)) - (1 : Int32)) >>> ((1 : Int32) &&& 31))) >>> ((2 : Int32) &&& 31))) >>> ((4 : Int32) &&& 31))) ||| (((((((((4 : Int32) * p0) + (2 : Int32)) / (3 : Int32)) - (1 : Int32)) ||| ((((((4 : Int32) * p0) + (2 : Int32)) / (3 : Int32)) - (1 : Int32)) >>> ((1 : Int32) &&& 31))) ||| (((((((4 : Int32) * p0) + (2 : Int32)) / (3 : Int32)) - (1 : Int32)) ||| ((((((4 : Int32) * p0) + (2 : Int32)) / (3 : Int32)) - (1 : Int32)) >>> ((1 : Int32) &&& 31))) >>> ((2 : Int32) &&& 31))) ||| ((((((((4 : Int32) * p0) + (2 : Int32)) / (3 : Int32)) - (1 : Int32)) ||| ((((((4 : Int32) * p0) + (2 : Int32)) / (3 : Int32)) - (1 : Int32)) >>> ((1 : Int32) &&& 31))) ||| (((((((4 : Int32) * p0) + (2 : Int32)) / (3 : Int32)) - (1 : Int32)) ||| ((((((4 : Int32) * p0) + (2 : Int32)) / (3 : Int32)) - (1 : Int32)) >>> ((1 : Int32) &&& 31))) >>> ((2 : Int32) &&& 31))) >>> ((4 : Int32) &&& 31))) >>> ((8 : Int32) &&& 31))) >>> ((16 : Int32) &&& 31)))), .val (.int (own_fmax (((((((((((4 : Int32) * p0) + (2 : Int32)) / (3 : Int32)) - (1 : Int32)) ||| ((((((4 : Int32) * p0) + (2 : Int32)) / (3 : Int32)) - (1 : Int32)) >>> ((1 : Int32) &&& 31))) ||| (((((((4 : Int32) * p0) + (2 : Int32)) / (3 : Int32)) - (1 : Int32)) ||| ((((((4 : Int32) * p0) + (2 : Int32)) / (3 : Int32)) - (1 : Int32)) >>> ((1 : Int32) &&& 31))) >>> ((2 : Int32) &&& 31))) ||| ((((((((4 : Int32) * p0) + (2 : Int32)) / (3 : Int32)) - (1 : Int32)) ||| ((((((4 : Int32) * p0) + (2 : Int32)) / (3 : Int32)) - (1 : Int32)) >>> ((1 : Int32) &&& 31))) ||| (((((((4 : Int32) * p0) + (2 : Int32)) / (3 : Int32)) - (1 : Int32)) ||| ((((((4 : Int32) * p0) + (2 : Int32)) / (3 : Int32)) - (1 : Int32)) >>> ((1 : Int32) &&& 31))) >>> ((2 : Int32) &&& 31))) >>> ((4 : Int32) &&& 31))) ||| (((((((((4 : Int32) * p0) + (2 : Int32)) / (3 : Int32)) - (1 : Int32)) ||| ((((((4 : Int32) * p0) + (2 : Int32)) / (3 : Int32)) - (1 : Int32)) >>> ((1 : Int32) &&& 31))) ||| (((((((4 : Int32) * p0) + (2 : Int32)) / (3 : Int32)) - (1 : Int32)) ||| ((((((4 : Int32) * p0) + (2 : Int32)) / (3 : Int32)) - (1 : Int32)) >>> ((1 : Int32) &&& 31))) >>> ((2 : Int32) &&& 31))) ||| ((((((((4 : Int32) * p0) + (2 : Int32)) / (3 : Int32)) - (1 : Int32)) ||| ((((((4 : Int32) * p0) + (2 : Int32)) / (3 : Int32)) - (1 : Int32)) >>> ((1 : Int32) &&& 31))) ||| (((((((4 : Int32) * p0) + (2 : Int32)) / (3 : Int32)) - (1 : Int32)) ||| ((((((4 : Int32) * p0) + (2 : Int32)) / (3 : Int32)) - (1 : Int32)) >>> ((1 : Int32) &&& 31))) >>> ((2 : Int32) &&& 31))) >>> ((4 : Int32) &&& 31))) >>> ((8 : Int32) &&& 31))) ||| ((((((((((4 : Int32) * p0) + (2 : Int32)) / (3 : Int32)) - (1 : Int32)) ||| ((((((4 : Int32) * p0) + (2 : Int32)) / (3 : Int32)) - (1 : Int32)) >>> ((1 : Int32) &&& 31))) ||| (((((((4 : Int32) * p0) + (2 : Int32)) / (3 : Int32)) - (1 : Int32)) ||| ((((((4 : Int32) * p0) + (2 : Int32)) / (3 : Int32)) - (1 : Int32)) >>> ((1 : Int32) &&& 31))) >>> ((2 : Int32) &&& 31))) ||| ((((((((4 : Int32) * p0) + (2 : Int32)) / (3 : Int32)) - (1 : Int32)) ||| ((((((4 : Int32) * p0) + (2 : Int32)) / (3 : Int32)) - (1 : Int32)) >>> ((1 : Int32) &&& 31))) ||| (((((((4 : Int32) * p0) + (2 : Int32)) / (3 : Int32)) - (1 : Int32)) ||| ((((((4 : Int32) * p0) + (2 : Int32)) / (3 : Int32)) - (1 : Int32)) >>> ((1 : Int32) &&& 31))) >>> ((2 : Int32) &&& 31))) >>> ((4 : Int32) &&& 31))) ||| (((((((((4 : Int32) * p0) + (2 : Int32)) / (3 : Int32)) - (1 : Int32)) ||| ((((((4 : Int32) * p0) + (2 : Int32)) / (3 : Int32)) - (1 : Int32)) >>> ((1 : Int32) &&& 31))) ||| (((((((4 : Int32) * p0) + (2 : Int32)) / (3 : Int32)) - (1 : Int32)) ||| ((((((4 : Int32) * p0) + (2 : Int32)) / (3 : Int32)) - (1 : Int32)) >>> ((1 : Int32) &&& 31))) >>> ((2 : Int32) &&& 31))) ||| ((((((((4 : Int32) * p0) + (2 : Int32)) / (3 : Int32)) - (1 : Int32)) ||| ((((((4 : Int32) * p0) + (2 : Int32)) / (3 : Int32)) - (1 : Int32)) >>> ((1 : Int32) &&& 31))) ||| (((((((4 : Int32) * p0) + (2 : Int32)) / (3 : Int32)) - (1 : Int32)) ||| ((((((4 : Int32) * p0) + (2 : Int32)) / (3 : Int32)) - (1 : Int32)) >>> ((1 : Int32) &&& 31))) >>> ((2 : Int32) &&& 31))) >>> ((4 : Int32) &&& 31))) >>> ((8 : Int32) &&& 31))) >>> ((16 : Int32) &&& 31))) + (1 : Int32)) (16 : Int32)))] [(.int (own_fmax (((((((((((4 : Int32) * p0) + (2 : Int32)) / (3 : Int32)) - (1 : Int32)) ||| ((((((4 : Int32) * p0) + (2 : Int32)) / (3 : Int32)) - (1 : Int32)) >>> ((1 : Int32) &&& 31))) ||| (((((((4 : Int32) * p0) + (2 : Int32)) / (3 : Int32)) - (1 : Int32)) ||| ((((((4 : Int32) * p0) + (2 : Int32)) / (3 : Int32)) - (1 : Int32)) >>> ((1 : Int32) &&& 31))) >>> ((2 : Int32) &&& 31))) ||| ((((((((4 : Int32) * p0) + (2 : Int32)) / (3 : Int32)) - (1 : Int32)) ||| ((((((4 : Int32) * p0) + (2 : Int32)) / (3 : Int32)) - (1 : Int32)) >>> ((1 : Int32) &&& 31))) ||| (((((((4 : Int32) * p0) + (2 : Int32)) / (3 : Int32)) - (1 : Int32)) ||| ((((((4 : Int32) * p0) + (2 : Int32)) / (3 : Int32)) - (1 : Int32)) >>> ((1 : Int32) &&& 31))) >>> ((2 : Int32) &&& 31))) >>> ((4 : Int32) &&& 31))) ||| (((((((((4 : Int32) * p0) + (2 : Int32)) / (3 : Int32)) - (1 : Int32)) ||| ((((((4 : Int32) * p0) + (2 : Int32)) / (3 : Int32)) - (1 : Int32)) >>> ((1 : Int32) &&& 31))) ||| (((((((4 : Int32) * p0) + (2 : Int32)) / (3 : Int32)) - (1 : Int32)) ||| ((((((4 : Int32) * p0) + (2 : Int32)) / (3 : Int32)) - (1 : Int32)) >>> ((1 : Int32) &&& 31))) >>> ((2 : Int32) &&& 31))) ||| ((((((((4 : Int32) * p0) + (2 : Int32)) / (3 : Int32)) - (1 : Int32)) ||| ((((((4 : Int32) * p0) + (2 : Int32)) / (3 : Int32)) - (1 : Int32)) >>> ((1 : Int32) &&& 31))) ||| (((((((4 : Int32) * p0) + (2 : Int32)) / (3 : Int32)) - (1 : Int32)) ||| ((((((4 : Int32) * p0) + (2 : Int32)) / (3 : Int32)) - (1 : Int32)) >>> ((1 : Int32) &&& 31))) >>> ((2 : Int32) &&& 31))) >>> ((4 : Int32) &&& 31))) >>> ((8 : Int32) &&& 31))) ||| ((((((((((4 : Int32) * p0) + (2 : Int32)) / (3 : Int32)) - (1 : Int32)) ||| ((((((4 : Int32) * p0) + (2 : Int32)) / (3 : Int32)) - (1 : Int32)) >>> ((1 : Int32) &&& 31))) ||| (((((((4 : Int32) * p0) + (2 : Int32)) / (3 : Int32)) - (1 : Int32)) ||| ((((((4 : Int32) * p0) + (2 : Int32)) / (3 : Int32)) - (1 : Int32)) >>> ((1 : Int32) &&& 31))) >>> ((2 : Int32) &&& 31))) ||| ((((((((4 : Int32) * p0) + (2 : Int32)) / (3 : Int32)) - (1 : Int32)) ||| ((((((4 : Int32) * p0) + (2 : Int32)) / (3 : Int32)) - (1 : Int32)) >>> ((1 : Int32) &&& 31))) ||| (((((((4 : Int32) * p0) + (2 : Int32)) / (3 : Int32)) - (1 : Int32)) ||| ((((((4 : Int32) * p0) + (2 : Int32)) / (3 : Int32)) - (1 : Int32)) >>> ((1 : Int32) &&& 31))) >>> ((2 : Int32) &&& 31))) >>> ((4 : Int32) &&& 31))) ||| (((((((((4 : Int32) * p0) + (2 : Int32)) / (3 : Int32)) - (1 : Int32)) ||| ((((((4 : Int32) * p0) + (2 : Int32)) / (3 : Int32)) - (1 : Int32)) >>> ((1 : Int32) &&& 31))) ||| (((((((4 : Int32) * p0) + (2 : Int32)) / (3 : Int32)) - (1 : Int32)) ||| ((((((4 : Int32) * p0) + (2 : Int32)) / (3 : Int32)) - (1 : Int32)) >>> ((1 : Int32) &&& 31))) >>> ((2 : Int32) &&& 31))) ||| ((((((((4 : Int32) * p0) + (2 : Int32)) / (3 : Int32)) - (1 : Int32)) ||| ((((((4 : Int32) * p0) + (2 : Int32)) / (3 : Int32)) - (1 : Int32)) >>> ((1 : Int32) &&& 31))) ||| (((((((4 : Int32) * p0) + (2 : Int32)) / (3 : Int32)) - (1 : Int32)) ||| ((((((4 : Int32) * p0) + (2 : Int32)) / (3 : Int32)) - (1 : Int32)) >>> ((1 : Int32) &&& 31))) >>> ((2 : Int32) &&& 31))) >>> ((4 : Int32) &&& 31))) >>> ((8 : Int32) &&& 31))) >>> ((16 : Int32) &&& 31))) + (1 : Int32)) (16 : Int32))), (.long (16 : Int64))]))
    refine own_st (fun _ => XS.i2l X2.here hx rfl (hb hby own_dexp_63) rfl) ?_
    show own_End p e below P (T2.setTop (mkF m 64 #[.val (.int p0), .val (.int ((((4 : Int32) * p0) + (2 : Int32)) / (3 : Int32))), .val (.int ((((((((((4 : Int32) * p0) + (2 : Int32)) / (3 : Int32)) - (1 : Int32)) ||| ((((((4 : Int32) * p0) + (2 : Int32)) / (3 : Int32)) - (1 : Int32)) >>> ((1 : Int32) &&& 31))) ||| (((((((4 : Int32) * p0) + (2 : Int32)) / (3 : Int32)) - (1 : Int32)) ||| ((((((4 : Int32) * p0) + (2 : Int32)) / (3 : Int32)) - (1 : Int32)) >>> ((1 : Int32) &&& 31))) >>> ((2 : Int32) &&& 31))) ||| ((((((((4 : Int32) * p0) + (2 : Int32)) / (3 : Int32)) - (1 : Int32)) ||| ((((((4 : Int32) * p0) + (2 : Int32)) / (3 : Int32)) - (1 : Int32)) >>> ((1 : Int32) &&& 31))) ||| (((((((4 : Int32) * p0) + (2 : Int32)) / (3 : Int32)) - (1 : Int32)) ||| ((((((4 : Int32) * p0) + (2 : Int32)) / (3 : Int32)) - (1 : Int32)) >>> ((1 : Int32) &&& 31))) >>> ((2 : Int32) &&& 31))) >>> ((4 : Int32) &&& 31))) ||| (((((((((4 : Int32) * p0) + (2 : Int32)) / (3 : Int32)) - (1 : Int32)) ||| ((((((4 : Int32) * p0) + (2 : Int32)) / (3 : Int32)) - (1 : Int32)) >>> ((1 : Int32) &&& 31))) ||| (((((((4 : Int32) * p0) + (2 : Int32)) / (3 : Int32)) - (1 : Int32)) ||| ((((((4 : Int32) * p0) + (2 : Int32)) / (3 : Int32)) - (1 : Int32)) >>> ((1 : Int32) &&& 31))) >>> ((2 : Int32) &&& 31))) ||| ((((((((4 : Int32) * p0) + (2 : Int32)) / (3 : Int32)) - (1 : Int32)) ||| ((((((4 : Int32) * p0) + (2 : Int32)) / (3 : Int32)) - (1 : Int32)) >>> ((1 : Int32) &&& 31))) ||| (((((((4 : Int32) * p0) + (2 : Int32)) / (3 : Int32)) - (1 : Int32)) ||| ((((((4 : Int32) * p0) + (2 : Int32)) / (3 : Int32)) - (1 : Int32)) >>> ((1 : Int32) &&& 31))) >>> ((2 : Int32) &&& 31))) >>> ((4 : Int32) &&& 31))) >>> ((8 : Int32) &&& 31))) ||| ((((((((((4 : Int32) * p0) + (2 : Int32)) / (3 : Int32)) - (1 : Int32)) ||| ((((((4 : Int32) * p0) + (2 : Int32)) / (3 : Int32)) - (1 : Int32)) >>> ((1 : Int32) &&& 31))) ||| (((((((4 : Int32) * p0) + (2 : Int32)) / (3 : Int32)) - (1 : Int32)) ||| ((((((4 : Int32) * p0) + (2 : Int32)) / (3 : Int32)) - (1 : Int32)) >>> ((1 : Int32) &&& 31))) >>> ((2 : Int32) &&& 31))) ||| ((((((((4 : Int32) * p0) + (2 : Int32)) / (3 : Int32)) - (1 : Int32)) ||| ((((((4 : Int32) * p0) + (2 : Int32)) / (3 : Int32)) - (1 : Int32)) >>> ((1 : Int32) &&& 31))) ||| (((((((4 : Int32) * p0) + (2 : Int32)) / (3 : Int32)) - (1 : Int32)) ||| ((((((4 : Int32) * p0) + (2 : Int32)) / (3 : Int32)) - (1 : Int32)) >>> ((1 : Int32) &&& 31))) >>> ((2 : Int32) &&& 31))) >>> ((4 : Int32) &&& 31))) ||| (((((((((4 : Int32) * p0) + (2 : Int32)) / (3 : Int32)) - (1 : Int32)) ||| ((((((4 : Int32) * p0) + (2 : Int32)) / (3 : Int32)) - (1 : Int32)) >>> ((1 : Int32) &&& 31))) ||| (((((((4 : Int32) * p0) + (2 : Int32)) / (3 : Int32)) - (1 : Int32)) ||| ((((((4 : Int32) * p0) + (2 : Int32)) / (3 : Int32)) - (1 : Int32)) >>> ((1 : Int32) &&& 31))) >>> ((2 : Int32) &&& 31))) ||| ((((((((4 : Int32) * p0) + (2 : Int32)) / (3 : Int32)) - (1 : Int32)) ||| ((((((4 : Int32) * p0) + (2 : Int32)) / (3 : Int32)) - (1 : Int32)) >>> ((1 : Int32) &&& 31))) ||| (((((((4 : Int32) * p0) + (2 : Int32)) / (3 : Int32)) - (1 : Int32)) ||| ((((((4 : Int32) * p0) + (2 : Int32)) / (3 : Int32)) - (1 : Int32)) >>> ((1 : Int32) &&& 31))) >>> ((2 : Int32) &&& 31))) >>> ((4 : Int32) &&& 31))) >>> ((8 : Int32) &&& 31))) >>> ((16 : Int32) &&& 31)))), .val (.int (own_fmax (((((((((((4 : Int32) * p0) + (2 : Int32)) / (3 : Int32)) - (1 : Int32)) ||| ((((((4 : Int32) * p0) + (2 : Int32)) / (3 : Int32)) - (1 : Int32)) >>> ((1 : Int32) &&& 31))) ||| (((((((4 : Int32) * p0) + (2 : Int32)) / (3 : Int32)) - (1 : Int32)) ||| ((((((4 : Int32) * p0) + (2 : Int32)) / (3 : Int32)) - (1 : Int32)) >>> ((1 : Int32) &&& 31))) >>> ((2 : Int32) &&& 31))) ||| ((((((((4 : Int32) * p0) + (2 : Int32)) / (3 : Int32)) - (1 : Int32)) ||| ((((((4 : Int32) * p0) + (2 : Int32)) / (3 : Int32)) - (1 : Int32)) >>> ((1 : Int32) &&& 31))) ||| (((((((4 : Int32) * p0) + (2 : Int32)) / (3 : Int32)) - (1 : Int32)) ||| ((((((4 : Int32) * p0) + (2 : Int32)) / (3 : Int32)) - (1 : Int32)) >>> ((1 : Int32) &&& 31))) >>> ((2 : Int32) &&& 31))) >>> ((4 : Int32) &&& 31))) ||| (((((((((4 : Int32) * p0) + (2 : Int32)) / (3 : Int32)) - (1 : Int32)) ||| ((((((4 : Int32) * p0) + (2 : Int32)) / (3 : Int32)) - (1 : Int32)) >>> ((1 : Int32) &&& 31))) ||| (((((((4 : Int32) * p0) + (2 : Int32)) / (3 : Int32)) - (1 : Int32)) ||| ((((((4 : Int32) * p0) + (2 : Int32)) / (3 : Int32)) - (1 : Int32)) >>> ((1 : Int32) &&& 31))) >>> ((2 : Int32) &&& 31))) ||| ((((((((4 : Int32) * p0) + (2 : Int32)) / (3 : Int32)) - (1 : Int32)) ||| ((((((4 : Int32) * p0) + (2 : Int32)) / (3 : Int32)) - (1 : Int32)) >>> ((1 : Int32) &&& 31))) ||| (((((((4 : Int32) * p0) + (2 : Int32)) / (3 : Int32)) - (1 : Int32)) ||| ((((((4 : Int32) * p0) + (2 : Int32)) / (3 : Int32)) - (1 : Int32)) >>> ((1 : Int32) &&& 31))) >>> ((2 : Int32) &&& 31))) >>> ((4 : Int32) &&& 31))) >>> ((8 : Int32) &&& 31))) ||| ((((((((((4 : Int32) * p0) + (2 : Int32)) / (3 : Int32)) - (1 : Int32)) ||| ((((((4 : Int32) * p0) + (2 : Int32)) / (3 : Int32)) - (1 : Int32)) >>> ((1 : Int32) &&& 31))) ||| (((((((4 : Int32) * p0) + (2 : Int32)) / (3 : Int32)) - (1 : Int32)) ||| ((((((4 : Int32) * p0) + (2 : Int32)) / (3 : Int32)) - (1 : Int32)) >>> ((1 : Int32) &&& 31))) >>> ((2 : Int32) &&& 31))) ||| ((((((((4 : Int32) * p0) + (2 : Int32)) / (3 : Int32)) - (1 : Int32)) ||| ((((((4 : Int32) * p0) + (2 : Int32)) / (3 : Int32)) - (1 : Int32)) >>> ((1 : Int32) &&& 31))) ||| (((((((4 : Int32) * p0) + (2 : Int32)) / (3 : Int32)) - (1 : Int32)) ||| ((((((4 : Int32) * p0) + (2 : Int32)) / (3 : Int32)) - (1 : Int32)) >>> ((1 : Int32) &&& 31))) >>> ((2 : Int32) &&& 31))) >>> ((4 : Int32) &&& 31))) ||| (((((((((4 : Int32) * p0) + (2 : Int32)) / (3 : Int32)) - (1 : Int32)) ||| ((((((4 : Int32) * p0) + (2 : Int32)) / (3 : Int32)) - (1 : Int32)) >>> ((1 : Int32) &&& 31))) ||| (((((((4 : Int32) * p0) + (2 : Int32)) / (3 : Int32)) - (1 : Int32)) ||| ((((((4 : Int32) * p0) + (2 : Int32)) / (3 : Int32)) - (1 : Int32)) >>> ((1 : Int32) &&& 31))) >>> ((2 : Int32) &&& 31))) ||| ((((((((4 : Int32) * p0) + (2 : Int32)) / (3 : Int32)) - (1 : Int32)) ||| ((((((4 : Int32) * p0) + (2 : Int32)) / (3 : Int32)) - (1 : Int32)) >>> ((1 : Int32) &&& 31))) ||| (((((((4 : Int32) * p0) + (2 : Int32)) / (3 : Int32)) - (1 : Int32)) ||| ((((((4 : Int32) * p0) + (2 : Int32)) / (3 : Int32)) - (1 : Int32)) >>> ((1 : Int32) &&& 31))) >>> ((2 : Int32) &&& 31))) >>> ((4 : Int32) &&& 31))) >>> ((8 : Int32) &&& 31))) >>> ((16 : Int32) &&& 31))) + (1 : Int32)) (16 : Int32)))] [(.long ((own_fmax (((((((((((4 : Int32) * p0) + (2 : Int32)) / (3 : Int32)) - (1 : Int32)) ||| ((((((4 : Int32) * p0) + (2 : Int32)) / (3 : Int32)) - (1 : Int32)) >>> ((1 : Int32) &&& 31))) ||| (((((((4 : Int32) * p0) + (2 : Int32)) / (3 : Int32)) - (1 : Int32)) ||| ((((((4 : Int32) * p0) + (2 : Int32)) / (3 : Int32)) - (1 : Int32)) >>> ((1 : Int32) &&& 31))) >>> ((2 : Int32) &&& 31))) ||| ((((((((4 : Int32) * p0) + (2 : Int32)) / (3 : Int32)) - (1 : Int32)) ||| ((((((4 : Int32) * p0) + (2 : Int32)) / (3 : Int32)) - (1 : Int32)) >>> ((1 : Int32) &&& 31))) ||| (((((((4 : Int32) * p0) + (2 : Int32)) / (3 : Int32)) - (1 : Int32)) ||| ((((((4 : Int32) * p0) + (2 : Int32)) / (3 : Int32)) - (1 : Int32)) >>> ((1 : Int32) &&& 31))) >>> ((2 : Int32) &&& 31))) >>> ((4 : Int32) &&& 31))) ||| (((((((((4 : Int32) * p0) + (2 : Int32)) / (3 : Int32)) - (1 : Int32)) ||| ((((((4 : Int32) * p0) + (2 : Int32)) / (3 : Int32)) - (1 : Int32)) >>> ((1 : Int32) &&& 31))) ||| (((((((4 : Int32) * p0) + (2 : Int32)) / (3 : Int32)) - (1 : Int32)) ||| ((((((4 : Int32) * p0) + (2 : Int32)) / (3 : Int32)) - (1 : Int32)) >>> ((1 : Int32) &&& 31))) >>> ((2 : Int32) &&& 31))) ||| ((((((((4 : Int32) * p0) + (2 : Int32)) / (3 : Int32)) - (1 : Int32)) ||| ((((((4 : Int32) * p0) + (2 : Int32)) / (3 : Int32)) - (1 : Int32)) >>> ((1 : Int32) &&& 31))) ||| (((((((4 : Int32) * p0) + (2 : Int32)) / (3 : Int32)) - (1 : Int32)) ||| ((((((4 : Int32) * p0) + (2 : Int32)) / (3 : Int32)) - (1 : Int32)) >>> ((1 : Int32) &&& 31))) >>> ((2 : Int32) &&& 31))) >>> ((4 : Int32) &&& 31))) >>> ((8 : Int32) &&& 31))) ||| ((((((((((4 : Int32) * p0) + (2 : Int32)) / (3 : Int32)) - (1 : Int32)) ||| ((((((4 : Int32) * p0) + (2 : Int32)) / (3 : Int32)) - (1 : Int32)) >>> ((1 : Int32) &&& 31))) ||| (((((((4 : Int32) * p0) + (2 : Int32)) / (3 : Int32)) - (1 : Int32)) ||| ((((((4 : Int32) * p0) + (2 : Int32)) / (3 : Int32)) - (1 : Int32)) >>> ((1 : Int32) &&& 31))) >>> ((2 : Int32) &&& 31))) ||| ((((((((4 : Int32) * p0) + (2 : Int32)) / (3 : Int32)) - (1 : Int32)) ||| ((((((4 : Int32) * p0) + (2 : Int32)) / (3 : Int32)) - (1 : Int32)) >>> ((1 : Int32) &&& 31))) ||| (((((((4 : Int32) * p0) + (2 : Int32)) / (3 : Int32)) - (1 : Int32)) ||| ((((((4 : Int32) * p0) + (2 : Int32)) / (3 : Int32)) - (1 : Int32)) >>> ((1 : Int32) &&& 31))) >>> ((2 : Int32) &&& 31))) >>> ((4 : Int32) &&& 31))) ||| (((((((((4 : Int32) * p0) + (2 : Int32)) / (3 : Int32)) - (1 : Int32)) ||| ((((((4 : Int32) * p0) + (2 : Int32)) / (3 : Int32)) - (1 : Int32)) >>> ((1 : Int32) &&& 31))) ||| (((((((4 : Int32) * p0) + (2 : Int32)) / (3 : Int32)) - (1 : Int32)) ||| ((((((4 : Int32) * p0) + (2 : Int32)) / (3 : Int32)) - (1 : Int32)) >>> ((1 : Int32) &&& 31))) >>> ((2 : Int32) &&& 31))) ||| ((((((((4 : Int32) * p0) + (2 : Int32)) / (3 : Int32)) - (1 : Int32)) ||| ((((((4 : Int32) * p0) + (2 : Int32)) / (3 : Int32)) - (1 : Int32)) >>> ((1 : Int32) &&& 31))) ||| (((((((4 : Int32) * p0) + (2 : Int32)) / (3 : Int32)) - (1 : Int32)) ||| ((((((4 : Int32) * p0) + (2 : Int32)) / (3 : Int32)) - (1 : Int32)) >>> ((1 : Int32) &&& 31))) >>> ((2 : Int32) &&& 31))) >>> ((4 : Int32) &&& 31))) >>> ((8 : Int32) &&& 31))) >>> ((16 : Int32) &&& 31))) + (1 : Int32)) (16 : Int32)).toInt64)), (.long (16 : Int64))]))
    refine own_st (fun _ => XS.lmul X2.here hx rfl (hb hby own_dexp_64) rfl) ?_
    show own_End p e below P (T2.setTop (mkF m 65 #[.val (.int p0), .val (.int ((((4 : Int32) * p0) + (2 : Int32)) / (3 : Int32))), .val (.int ((((((((((4 : Int32) * p0) + (2 : Int32)) / (3 : Int32)) - (1 : Int32)) ||| ((((((4 : Int32) * p0) + (2 : Int32)) / (3 : Int32)) - (1 : Int32)) >>> ((1 : Int32) &&& 31))) ||| (((((((4 : Int32) * p0) + (2 : Int32)) / (3 : Int32)) - (1 : Int32)) ||| ((((((4 : Int32) * p0) + (2 : Int32)) / (3 : Int32)) - (1 : Int32)) >>> ((1 : Int32) &&& 31))) >>> ((2 : Int32) &&& 31))) ||| ((((((((4 : Int32) * p0) + (2 : Int32)) / (3 : Int32)) - (1 : Int32)) ||| ((((((4 : Int32) * p0) + (2 : Int32)) / (3 : Int32)) - (1 : Int32)) >>> ((1 : Int32) &&& 31))) ||| (((((((4 : Int32) * p0) + (2 : Int32)) / (3 : Int32)) - (1 : Int32)) ||| ((((((4 : Int32) * p0) + (2 : Int32)) / (3 : Int32)) - (1 : Int32)) >>> ((1 : Int32) &&& 31))) >>> ((2 : Int32) &&& 31))) >>> ((4 : Int32) &&& 31))) ||| (((((((((4 : Int32) * p0) + (2 : Int32)) / (3 : Int32)) - (1 : Int32)) ||| ((((((4 : Int32) * p0) + (2 : Int32)) / (3 : Int32)) - (1 : Int32)) >>> ((1 : Int32) &&& 31))) ||| (((((((4 : Int32) * p0) + (2 : Int32)) / (3 : Int32)) - (1 : Int32)) ||| ((((((4 : Int32) * p0) + (2 : Int32)) / (3 : Int32)) - (1 : Int32)) >>> ((1 : Int32) &&& 31))) >>> ((2 : Int32) &&& 31))) ||| ((((((((4 : Int32) * p0) + (2 : Int32)) / (3 : Int32)) - (1 : Int32)) ||| ((((((4 : Int32) * p0) + (2 : Int32)) / (3 : Int32)) - (1 : Int32)) >>> ((1 : Int32) &&& 31))) ||| (((((((4 : Int32) * p0) + (2 : Int32)) / (3 : Int32)) - (1 : Int32)) ||| ((((((4 : Int32) * p0) + (2 : Int32)) / (3 : Int32)) - (1 : Int32)) >>> ((1 : Int32) &&& 31))) >>> ((2 : Int32) &&& 31))) >>> ((4 : Int32) &&& 31))) >>> ((8 : Int32) &&& 31))) ||| ((((((((((4 : Int32) * p0) + (2 : Int32)) / (3 : Int32)) - (1 : Int32)) ||| ((((((4 : Int32) * p0) + (2 : Int32)) / (3 : Int32)) - (1 : Int32)) >>> ((1 : Int32) &&& 31))) ||| (((((((4 : Int32) * p0) + (2 : Int32)) / (3 : Int32)) - (1 : Int32)) ||| ((((((4 : Int32) * p0) + (2 : Int32)) / (3 : Int32)) - (1 : Int32)) >>> ((1 : Int32) &&& 31))) >>> ((2 : Int32) &&& 31))) ||| ((((((((4 : Int32) * p0) + (2 : Int32)) / (3 : Int32)) - (1 : Int32)) ||| ((((((4 : Int32) * p0) + (2 : Int32)) / (3 : Int32)) - (1 : Int32)) >>> ((1 : Int32) &&& 31))) ||| (((((((4 : Int32) * p0) + (2 : Int32)) / (3 : Int32)) - (1 : Int32)) ||| ((((((4 : Int32) * p0) + (2 : Int32)) / (3 : Int32)) - (1 : Int32)) >>> ((1 : Int32) &&& 31))) >>> ((2 : Int32) &&& 31))) >>> ((4 : Int32) &&& 31))) ||| (((((((((4 : Int32) * p0) + (2 : Int32)) / (3 : Int32)) - (1 : Int32)) ||| ((((((4 : Int32) * p0) + (2 : Int32)) / (3 : Int32)) - (1 : Int32)) >>> ((1 : Int32) &&& 31))) ||| (((((((4 : Int32) * p0) + (2 : Int32)) / (3 : Int32)) - (1 : Int32)) ||| ((((((4 : Int32) * p0) + (2 : Int32)) / (3 : Int32)) - (1 : Int32)) >>> ((1 : Int32) &&& 31))) >>> ((2 : Int32) &&& 31))) ||| ((((((((4 : Int32) * p0) + (2 : Int32)) / (3 : Int32)) - (1 : Int32)) ||| ((((((4 : Int32) * p0) + (2 : Int32)) / (3 : Int32)) - (1 : Int32)) >>> ((1 : Int32) &&& 31))) ||| (((((((4 : Int32) * p0) + (2 : Int32)) / (3 : Int32)) - (1 : Int32)) ||| ((((((4 : Int32) * p0) + (2 : Int32)) / (3 : Int32)) - (1 : Int32)) >>> ((1 : Int32) &&& 31))) >>> ((2 : Int32) &&& 31))) >>> ((4 : Int32) &&& 31))) >>> ((8 : Int32) &&& 31))) >>> ((16 : Int32) &&& 31)))), .val (.int (own_fmax (((((((((((4 : Int32) * p0) + (2 : Int32)) / (3 : Int32)) - (1 : Int32)) ||| ((((((4 : Int32) * p0) + (2 : Int32)) / (3 : Int32)) - (1 : Int32)) >>> ((1 : Int32) &&& 31))) ||| (((((((4 : Int32) * p0) + (2 : Int32)) / (3 : Int32)) - (1 : Int32)) ||| ((((((4 : Int32) * p0) + (2 : Int32)) / (3 : Int32)) - (1 : Int32)) >>> ((1 : Int32) &&& 31))) >>> ((2 : Int32) &&& 31))) ||| ((((((((4 : Int32) * p0) + (2 : Int32)) / (3 : Int32)) - (1 : Int32)) ||| ((((((4 : Int32) * p0) + (2 : Int32)) / (3 : Int32)) - (1 : Int32)) >>> ((1 : Int32) &&& 31))) ||| (((((((4 : Int32) * p0) + (2 : Int32)) / (3 : Int32)) - (1 : Int32)) ||| ((((((4 : Int32) * p0) + (2 : Int32)) / (3 : Int32)) - (1 : Int32)) >>> ((1 : Int32) &&& 31))) >>> ((2 : Int32) &&& 31))) >>> ((4 : Int32) &&& 31))) ||| (((((((((4 : Int32) * p0) + (2 : Int32)) / (3 : Int32)) - (1 : Int32)) ||| ((((((4 : Int32) * p0) + (2 : Int32)) / (3 : Int32)) - (1 : Int32)) >>> ((1 : Int32) &&& 31))) ||| (((((((4 : Int32) * p0) + (2 : Int32)) / (3 : Int32)) - (1 : Int32)) ||| ((((((4 : Int32) * p0) + (2 : Int32)) / (3 : Int32)) - (1 : Int32)) >>> ((1 : Int32) &&& 31))) >>> ((2 : Int32) &&& 31))) ||| ((((((((4 : Int32) * p0) + (2 : Int32)) / (3 : Int32)) - (1 : Int32)) ||| ((((((4 : Int32) * p0) + (2 : Int32)) / (3 : Int32)) - (1 : Int32)) >>> ((1 : Int32) &&& 31))) ||| (((((((4 : Int32) * p0) + (2 : Int32)) / (3 : Int32)) - (1 : Int32)) ||| ((((((4 : Int32) * p0) + (2 : Int32)) / (3 : Int32)) - (1 : Int32)) >>> ((1 : Int32) &&& 31))) >>> ((2 : Int32) &&& 31))) >>> ((4 : Int32) &&& 31))) >>> ((8 : Int32) &&& 31))) ||| ((((((((((4 : Int32) * p0) + (2 : Int32)) / (3 : Int32)) - (1 : Int32)) ||| ((((((4 : Int32) * p0) + (2 : Int32)) / (3 : Int32)) - (1 : Int32)) >>> ((1 : Int32) &&& 31))) ||| (((((((4 : Int32) * p0) + (2 : Int32)) / (3 : Int32)) - (1 : Int32)) ||| ((((((4 : Int32) * p0) + (2 : Int32)) / (3 : Int32)) - (1 : Int32)) >>> ((1 : Int32) &&& 31))) >>> ((2 : Int32) &&& 31))) ||| ((((((((4 : Int32) * p0) + (2 : Int32)) / (3 : Int32)) - (1 : Int32)) ||| ((((((4 : Int32) * p0) + (2 : Int32)) / (3 : Int32)) - (1 : Int32)) >>> ((1 : Int32) &&& 31))) ||| (((((((4 : Int32) * p0) + (2 : Int32)) / (3 : Int32)) - (1 : Int32)) ||| ((((((4 : Int32) * p0) + (2 : Int32)) / (3 : Int32)) - (1 : Int32)) >>> ((1 : Int32) &&& 31))) >>> ((2 : Int32) &&& 31))) >>> ((4 : Int32) &&& 31))) ||| (((((((((4 : Int32) * p0) + (2 : Int32)) / (3 : Int32)) - (1 : Int32)) ||| ((((((4 : Int32) * p0) + (2 : Int32)) / (3 : Int32)) - (1 : Int32)) >>> ((1 : Int32) &&& 31))) ||| (((((((4 : Int32) * p0) + (2 : Int32)) / (3 : Int32)) - (1 : Int32)) ||| ((((((4 : Int32) * p0) + (2 : Int32)) / (3 : Int32)) - (1 : Int32)) >>> ((1 : Int32) &&& 31))) >>> ((2 : Int32) &&& 31))) ||| ((((((((4 : Int32) * p0) + (2 : Int32)) / (3 : Int32)) - (1 : Int32)) ||| ((((((4 : Int32) * p0) + (2 : Int32)) / (3 : Int32)) - (1 : Int32)) >>> ((1 : Int32) &&& 31))) ||| (((((((4 : Int32) * p0) + (2 : Int32)) / (3 : Int32)) - (1 : Int32)) ||| ((((((4 : Int32) * p0) + (2 : Int32)) / (3 : Int32)) - (1 : Int32)) >>> ((1 : Int32) &&& 31))) >>> ((2 : Int32) &&& 31))) >>> ((4 : Int32) &&& 31))) >>> ((8 : Int32) &&& 31))) >>> ((16 : Int32) &&& 31))) + (1 : Int32)) (16 : Int32)))] [(.long ((16 : Int64) * ((own_fmax (((((((((((4 : Int32) * p0) + (2 : Int32)) / (3 : Int32)) - (1 : Int32)) ||| ((((((4 : Int32) * p0) + (2 : Int32)) / (3 : Int32)) - (1 : Int32)) >>> ((1 : Int32) &&& 31))) ||| (((((((4 : Int32) * p0) + (2 : Int32)) / (3 : Int32)) - (1 : Int32)) ||| ((((((4 : Int32) * p0) + (2 : Int32)) / (3 : Int32)) - (1 : Int32)) >>> ((1 : Int32) &&& 31))) >>> ((2 : Int32) &&& 31))) ||| ((((((((4 : Int32) * p0) + (2 : Int32)) / (3 : Int32)) - (1 : Int32)) ||| ((((((4 : Int32) * p0) + (2 : Int32)) / (3 : Int32)) - (1 : Int32)) >>> ((1 : Int32) &&& 31))) ||| (((((((4 : Int32) * p0) + (2 : Int32)) / (3 : Int32)) - (1 : Int32)) ||| ((((((4 : Int32) * p0) + (2 : Int32)) / (3 : Int32)) - (1 : Int32)) >>> ((1 : Int32) &&& 31))) >>> ((2 : Int32) &&& 31))) >>> ((4 : Int32) &&& 31))) ||| (((((((((4 : Int32) * p0) + (2 : Int32)) / (3 : Int32)) - (1 : Int32)) ||| ((((((4 : Int32) * p0) + (2 : Int32)) / (3 : Int32)) - (1 : Int32)) >>> ((1 : Int32) &&& 31))) ||| (((((((4 : Int32) * p0) + (2 : Int32)) / (3 : Int32)) - (1 : Int32)) ||| ((((((4 : Int32) * p0) + (2 : Int32)) / (3 : Int32)) - (1 : Int32)) >>> ((1 : Int32) &&& 31))) >>> ((2 : Int32) &&& 31))) ||| ((((((((4 : Int32) * p0) + (2 : Int32)) / (3 : Int32)) - (1 : Int32)) ||| ((((((4 : Int32) * p0) + (2 : Int32)) / (3 : Int32)) - (1 : Int32)) >>> ((1 : Int32) &&& 31))) ||| (((((((4 : Int32) * p0) + (2 : Int32)) / (3 : Int32)) - (1 : Int32)) ||| ((((((4 : Int32) * p0) + (2 : Int32)) / (3 : Int32)) - (1 : Int32)) >>> ((1 : Int32) &&& 31))) >>> ((2 : Int32) &&& 31))) >>> ((4 : Int32) &&& 31))) >>> ((8 : Int32) &&& 31))) ||| ((((((((((4 : Int32) * p0) + (2 : Int32)) / (3 : Int32)) - (1 : Int32)) ||| ((((((4 : Int32) * p0) + (2 : Int32)) / (3 : Int32)) - (1 : Int32)) >>> ((1 : Int32) &&& 31))) ||| (((((((4 : Int32) * p0) + (2 : Int32)) / (3 : Int32)) - (1 : Int32)) ||| ((((((4 : Int32) * p0) + (2 : Int32)) / (3 : Int32)) - (1 : Int32)) >>> ((1 : Int32) &&& 31))) >>> ((2 : Int32) &&& 31))) ||| ((((((((4 : Int32) * p0) + (2 : Int32)) / (3 : Int32)) - (1 : Int32)) ||| ((((((4 : Int32) * p0) + (2 : Int32)) / (3 : Int32)) - (1 : Int32)) >>> ((1 : Int32) &&& 31))) ||| (((((((4 : Int32) * p0) + (2 : Int32)) / (3 : Int32)) - (1 : Int32)) ||| ((((((4 : Int32) * p0) + (2 : Int32)) / (3 : Int32)) - (1 : Int32)) >>> ((1 : Int32) &&& 31))) >>> ((2 : Int32) &&& 31))) >>> ((4 : Int32) &&& 31))) ||| (((((((((4 : Int32) * p0) + (2 : Int32)) / (3 : Int32)) - (1 : Int32)) ||| ((((((4 : Int32) * p0) + (2 : Int32)) / (3 : Int32)) - (1 : Int32)) >>> ((1 : Int32) &&& 31))) ||| (((((((4 : Int32) * p0) + (2 : Int32)) / (3 : Int32)) - (1 : Int32)) ||| ((((((4 : Int32) * p0) + (2 : Int32)) / (3 : Int32)) - (1 : Int32)) >>> ((1 : Int32) &&& 31))) >>> ((2 : Int32) &&& 31))) ||| ((((((((4 : Int32) * p0) + (2 : Int32)) / (3 : Int32)) - (1 : Int32)) ||| ((((((4 : Int32) * p0) + (2 : Int32)) / (3 : Int32)) - (1 : Int32)) >>> ((1 : Int32) &&& 31))) ||| (((((((4 : Int32) * p0) + (2 : Int32)) / (3 : Int32)) - (1 : Int32)) ||| ((((((4 : Int32) * p0) + (2 : Int32)) / (3 : Int32)) - (1 : Int32)) >>> ((1 : Int32) &&& 31))) >>> ((2 : Int32) &&& 31))) >>> ((4 : Int32) &&& 31))) >>> ((8 : Int32) &&& 31))) >>> ((16 : Int32) &&& 31))) + (1 : Int32)) (16 : Int32)).toInt64)))]))
    refine own_retL X2 hx hlk hP hrt (hb hby own_dexp_65) (by decide) (by decide) ⟨congrArg (fun z => some (Value.long z)) ?_, N2, eq2⟩
    exact (show own_fexp p0 = ((16 : Int64) * ((own_fmax (((((((((((4 : Int32) * p0) + (2 : Int32)) / (3 : Int32)) - (1 : Int32)) ||| ((((((4 : Int32) * p0) + (2 : Int32)) / (3 : Int32)) - (1 : Int32)) >>> ((1 : Int32) &&& 31))) ||| (((((((4 : Int32) * p0) + (2 : Int32)) / (3 : Int32)) - (1 : Int32)) ||| ((((((4 : Int32) * p0) + (2 : Int32)) / (3 : Int32)) - (1 : Int32)) >>> ((1 : Int32) &&& 31))) >>> ((2 : Int32) &&& 31))) ||| ((((((((4 : Int32) * p0) + (2 : Int32)) / (3 : Int32)) - (1 : Int32)) ||| ((((((4 : Int32) * p0) + (2 : Int32)) / (3 : Int32)) - (1 : Int32)) >>> ((1 : Int32) &&& 31))) ||| (((((((4 : Int32) * p0) + (2 : Int32)) / (3 : Int32)) - (1 : Int32)) ||| ((((((4 : Int32) * p0) + (2 : Int32)) / (3 : Int32)) - (1 : Int32)) >>> ((1 : Int32) &&& 31))) >>> ((2 : Int32) &&& 31))) >>> ((4 : Int32) &&& 31))) ||| (((((((((4 : Int32) * p0) + (2 : Int32)) / (3 : Int32)) - (1 : Int32)) ||| ((((((4 : Int32) * p0) + (2 : Int32)) / (3 : Int32)) - (1 : Int32)) >>> ((1 : Int32) &&& 31))) ||| (((((((4 : Int32) * p0) + (2 : Int32)) / (3 : Int32)) - (1 : Int32)) ||| ((((((4 : Int32) * p0) + (2 : Int32)) / (3 : Int32)) - (1 : Int32)) >>> ((1 : Int32) &&& 31))) >>> ((2 : Int32) &&& 31))) ||| ((((((((4 : Int32) * p0) + (2 : Int32)) / (3 : Int32)) - (1 : Int32)) ||| ((((((4 : Int32) * p0) + (2 : Int32)) / (3 : Int32)) - (1 : Int32)) >>> ((1 : Int32) &&& 31))) ||| (((((((4 : Int32) * p0) + (2 : Int32)) / (3 : Int32)) - (1 : Int32)) ||| ((((((4 : Int32) * p0) + (2 : Int32)) / (3 : Int32)) - (1 : Int32)) >>> ((1 : Int32) &&& 31))) >>> ((2 : Int32) &&& 31))) >>> ((4 : Int32) &&& 31))) >>> ((8 : Int32) &&& 31))) ||| ((((((((((4 : Int32) * p0) + (2 : Int32)) / (3 : Int32)) - (1 : Int32)) ||| ((((((4 : Int32) * p0) + (2 : Int32)) / (3 : Int32)) - (1 : Int32)) >>> ((1 : Int32) &&& 31))) ||| (((((((4 : Int32) * p0) + (2 : Int32)) / (3 : Int32)) - (1 : Int32)) ||| ((((((4 : Int32) * p0) + (2 : Int32)) / (3 : Int32)) - (1 : Int32)) >>> ((1 : Int32) &&& 31))) >>> ((2 : Int32) &&& 31))) ||| ((((((((4 : Int32) * p0) + (2 : Int32)) / (3 : Int32)) - (1 : Int32)) ||| ((((((4 : Int32) * p0) + (2 : Int32)) / (3 : Int32)) - (1 : Int32)) >>> ((1 : Int32) &&& 31))) ||| (((((((4 : Int32) * p0) + (2 : Int32)) / (3 : Int32)) - (1 : Int32)) ||| ((((((4 : Int32) * p0) + (2 : Int32)) / (3 : Int32)) - (1 : Int32)) >>> ((1 : Int32) &&& 31))) >>> ((2 : Int32) &&& 31))) >>> ((4 : Int32) &&& 31))) ||| (((((((((4 : Int32) * p0) + (2 : Int32)) / (3 : Int32)) - (1 : Int32)) ||| ((((((4 : Int32) * p0) + (2 : Int32)) / (3 : Int32)) - (1 : Int32)) >>> ((1 : Int32) &&& 31))) ||| (((((((4 : Int32) * p0) + (2 : Int32)) / (3 : Int32)) - (1 : Int32)) ||| ((((((4 : Int32) * p0) + (2 : Int32)) / (3 : Int32)) - (1 : Int32)) >>> ((1 : Int32) &&& 31))) >>> ((2 : Int32) &&& 31))) ||| ((((((((4 : Int32) * p0) + (2 : Int32)) / (3 : Int32)) - (1 : Int32)) ||| ((((((4 : Int32) * p0) + (2 : Int32)) / (3 : Int32)) - (1 : Int32)) >>> ((1 : Int32) &&& 31))) ||| (((((((4 : Int32) * p0) + (2 : Int32)) / (3 : Int32)) - (1 : Int32)) ||| ((((((4 : Int32) * p0) + (2 : Int32)) / (3 : Int32)) - (1 : Int32)) >>> ((1 : Int32) &&& 31))) >>> ((2 : Int32) &&& 31))) >>> ((4 : Int32) &&& 31))) >>> ((8 : Int32) &&& 31))) >>> ((16 : Int32) &&& 31))) + (1 : Int32)) (16 : Int32)).toInt64)) from (if_neg hc1).trans (rfl)).symm
theorem own_dbytes_0 : decode prog_8_method_6_code 0 = .ok (.ldc2_w 23, 3) := by decide +kernel
theorem own_dbytes_3 : decode prog_8_method_6_code 3 = .ok (.aload_n 0, 1) := by decide +kernel
theorem own_dbytes_4 : decode prog_8_method_6_code 4 = .ok (.getfield 16, 3) := by decide +kernel
theorem own_dbytes_7 : decode prog_8_method_6_code 7 = .ok (.arraylength, 1) := by decide +kernel
theorem own_dbytes_8 : decode prog_8_method_6_code 8 = .ok (.i2l, 1) := by decide +kernel
theorem own_dbytes_9 : decode prog_8_method_6_code 9 = .ok (.lmul, 1) := by decide +kernel
theorem own_dbytes_10 : decode prog_8_method_6_code 10 = .ok (.ldc2_w 27, 3) := by decide +kernel
theorem own_dbytes_13 : decode prog_8_method_6_code 13 = .ok (.lmul, 1) := by decide +kernel
theorem own_dbytes_14 : decode prog_8_method_6_code 14 = .ok (.lreturn, 1) := by decide +kernel
theorem own_efbytes (m : MethodId) (o0 : Addr) : entryFrame m #[(.ref o0)] 1 = mkF m 0 #[.val (.ref o0)] [] := by first | (simp [entryFrame, mkF, argsToLocals, Value.category]; done) | rfl
def own_fbytes (xs : List Int64) : Int64 := (((2 : Int64) * ((Int32.ofNat xs.length).toInt64)) * (8 : Int64))
set_option maxRecDepth 65536 in
set_option maxHeartbeats 40000000 in
theorem own_mbytes (l : Launch) (Z : State) (a0 : Array Value) (hw : ∀ d ∈ tables_1, d.before a0 Z = true) (ws : List Jvm.Cond) (o0 : Addr) (xs : List Int64) (w_o0_entries : Addr) (h0 : Heap) (n0 : Nat) (Z0 : n0 ≤ h0.size) (F_o0_entries : Fld Z h0 o0 "com/example/defnot/defnot/CuckooStash" "entries" "[J" (.ref w_o0_entries)) (A_w_o0_entries : own_LA Z h0 w_o0_entries xs) :
    own_Met l Z (⟨"com/example/defnot/defnot/CuckooStash", "bytes", "()J"⟩ : MethodName) prog_8_method_6_code 1 (some .long) ws ({ frames := 0, cells := 0, slots := 0, locals := 0 } : Room) #[(.ref o0)] h0 (fun (v : Option Value) (h : Heap) (L : List Loc) => v = some (.long (own_fbytes xs)) ∧ Fr n0 L ∧ h = h0) := by
  refine own_enter (plainFor_of_name own_pn_com_example_defnot_defnot_CuckooStash) ?_
  intro p e s m below meth c s₁ P hx hby hml hrt hlk hown hnm hZ X0 e0 hP
  have N0 := Fr.nil n0
  have K0 := Keep.refl h0 []
  have hml' : c.maxLocals = 1 := hml
  refine own_cast (own_efbytes m o0) ?_
  show own_End p e below P (s₁.setTop (mkF m 0 #[.val (.ref o0)] []))
  refine own_st (fun _ => X0.ldc2Long hx hown (mvT hZ (hw _ (List.mem_of_getElem? (i := 24) rfl))) (g := (mkF m 0 #[.val (.ref o0)] [])) rfl (hb hby own_dbytes_0) _) ?_
  show own_End p e below P (s₁.setTop (mkF m 3 #[.val (.ref o0)] [(.long (2 : Int64))]))
  refine own_st (fun _ => XS.aloadN X0.here hx rfl (hb hby own_dbytes_3) rfl rfl) ?_
  show own_End p e below P (s₁.setTop (mkF m 4 #[.val (.ref o0)] [(.ref o0), (.long (2 : Int64))]))
  obtain ⟨T1, X1, e1, st1⟩ := getF X0 hx hZ hown (host := "") (Or.inl (hw _ (List.mem_of_getElem? (i := 15) rfl))) Via.refl e0 F_o0_entries (g := (mkF m 4 #[.val (.ref o0)] [(.ref o0), (.long (2 : Int64))])) rfl rfl (hb hby own_dbytes_4)
  refine own_st (fun _ => st1 _) ?_
  show own_End p e below P (T1.setTop (mkF m 7 #[.val (.ref o0)] [(.ref w_o0_entries), (.long (2 : Int64))]))
  refine own_alenJ X1 hx hZ e1 A_w_o0_entries (g := (mkF m 7 #[.val (.ref o0)] [(.ref w_o0_entries), (.long (2 : Int64))])) rfl rfl (hb hby own_dbytes_7) ?_
  show own_End p e below P (T1.setTop (mkF m 8 #[.val (.ref o0)] [(.int (Int32.ofNat xs.length)), (.long (2 : Int64))]))
  refine own_st (fun _ => XS.i2l X1.here hx rfl (hb hby own_dbytes_8) rfl) ?_
  show own_End p e below P (T1.setTop (mkF m 9 #[.val (.ref o0)] [(.long ((Int32.ofNat xs.length).toInt64)), (.long (2 : Int64))]))
  refine own_st (fun _ => XS.lmul X1.here hx rfl (hb hby own_dbytes_9) rfl) ?_
  show own_End p e below P (T1.setTop (mkF m 10 #[.val (.ref o0)] [(.long ((2 : Int64) * ((Int32.ofNat xs.length).toInt64)))]))
  refine own_st (fun _ => X1.ldc2Long hx hown (mvT hZ (hw _ (List.mem_of_getElem? (i := 25) rfl))) (g := (mkF m 10 #[.val (.ref o0)] [(.long ((2 : Int64) * ((Int32.ofNat xs.length).toInt64)))])) rfl (hb hby own_dbytes_10) _) ?_
  show own_End p e below P (T1.setTop (mkF m 13 #[.val (.ref o0)] [(.long (8 : Int64)), (.long ((2 : Int64) * ((Int32.ofNat xs.length).toInt64)))]))
  refine own_st (fun _ => XS.lmul X1.here hx rfl (hb hby own_dbytes_13) rfl) ?_
  show own_End p e below P (T1.setTop (mkF m 14 #[.val (.ref o0)] [(.long (((2 : Int64) * ((Int32.ofNat xs.length).toInt64)) * (8 : Int64)))]))
  refine own_retL X1 hx hlk hP hrt (hb hby own_dbytes_14) (by decide) (by decide) ⟨congrArg (fun z => some (Value.long z)) ?_, N0, e1⟩
  exact (show own_fbytes xs = (((2 : Int64) * ((Int32.ofNat xs.length).toInt64)) * (8 : Int64)) from rfl).symm
theorem own_dinit_0 : decode prog_8_method_2_code 0 = .ok (.aload_n 0, 1) := by decide +kernel
theorem own_dinit_1 : decode prog_8_method_2_code 1 = .ok (.invokespecial 7, 3) := by decide +kernel
theorem own_dinit_4 : decode prog_8_method_2_code 4 = .ok (.iload_n 1, 1) := by decide +kernel
theorem own_dinit_5 : decode prog_8_method_2_code 5 = .ok (.invokestatic 12, 3) := by decide +kernel
theorem own_pd_I_I_227 : parseMethodDescriptor "(I)I" = some ⟨[.int], some .int⟩ := by decide +kernel
theorem own_dinit_8 : decode prog_8_method_2_code 8 = .ok (.istore_n 2, 1) := by decide +kernel
theorem own_dinit_9 : decode prog_8_method_2_code 9 = .ok (.aload_n 0, 1) := by decide +kernel
theorem own_dinit_10 : decode prog_8_method_2_code 10 = .ok (.iload_n 2, 1) := by decide +kernel
theorem own_dinit_11 : decode prog_8_method_2_code 11 = .ok (.newarray .long, 2) := by decide +kernel
theorem own_dinit_13 : decode prog_8_method_2_code 13 = .ok (.putfield 16, 3) := by decide +kernel
theorem own_dinit_16 : decode prog_8_method_2_code 16 = .ok (.aload_n 0, 1) := by decide +kernel
theorem own_dinit_17 : decode prog_8_method_2_code 17 = .ok (.iload_n 2, 1) := by decide +kernel
theorem own_dinit_18 : decode prog_8_method_2_code 18 = .ok (.newarray .long, 2) := by decide +kernel
theorem own_dinit_20 : decode prog_8_method_2_code 20 = .ok (.putfield 20, 3) := by decide +kernel
theorem own_dinit_23 : decode prog_8_method_2_code 23 = .ok (.return_, 1) := by decide +kernel
theorem own_efinit (m : MethodId) (o0 : Addr) (p1 : Int32) : entryFrame m #[(.ref o0), (.int p1)] 3 = mkF m 0 #[.val (.ref o0), .val (.int p1), .unset] [] := by first | (simp [entryFrame, mkF, argsToLocals, Value.category]; done) | rfl
set_option maxRecDepth 65536 in
set_option maxHeartbeats 40000000 in
theorem own_minit (l : Launch) (Z : State) (a0 : Array Value) (hw : ∀ d ∈ tables_1, d.before a0 Z = true) (ws : List Jvm.Cond) (o0 : Addr) (p1 : Int32) (cp : Nat) (h0 : Heap) (n0 : Nat) (Z0 : n0 ≤ h0.size) (E_o0 : Exa Z h0 o0 "com/example/defnot/defnot/CuckooStash") (F_o0_entries : Fld Z h0 o0 "com/example/defnot/defnot/CuckooStash" "entries" "[J" .null) (F_o0_counts : Fld Z h0 o0 "com/example/defnot/defnot/CuckooStash" "counts" "[J" .null) (F_o0_size : Fld Z h0 o0 "com/example/defnot/defnot/CuckooStash" "size" "I" (.int (0 : Int32))) (F_o0_copies : Fld Z h0 o0 "com/example/defnot/defnot/CuckooStash" "copies" "J" (.long (0 : Int64))) (low_o0 : n0 ≤ o0) (hm : 0 ≤ p1.toInt ∧ p1.toInt ≤ 16383) (hcp : (own_plc p1).toInt = (cp : Int)) (hc2 : cp ≤ 32768) :
    own_Met l Z (⟨"com/example/defnot/defnot/CuckooStash", "<init>", "(I)V"⟩ : MethodName) prog_8_method_2_code 3 none ws ({ frames := 2, cells := 2, slots := 65536, locals := 28 } : Room) #[(.ref o0), (.int p1)] h0 (fun (v : Option Value) (h : Heap) (L : List Loc) => ∃ (b3 : Addr) (b8 : Addr), v = none ∧ Fr n0 L ∧ Keep h0 h [o0] ∧ h0.size ≤ b3 ∧ n0 ≤ b3 ∧ h0.size ≤ b8 ∧ n0 ≤ b8 ∧ b3 ≠ b8 ∧ Exa Z h o0 "com/example/defnot/defnot/CuckooStash" ∧ Fld Z h o0 "com/example/defnot/defnot/CuckooStash" "entries" "[J" (.ref b3) ∧ Fld Z h o0 "com/example/defnot/defnot/CuckooStash" "counts" "[J" (.ref b8) ∧ Fld Z h o0 "com/example/defnot/defnot/CuckooStash" "size" "I" (.int (0 : Int32)) ∧ Fld Z h o0 "com/example/defnot/defnot/CuckooStash" "copies" "J" (.long (0 : Int64)) ∧ own_LA Z h b3 (List.replicate cp (0 : Int64)) ∧ own_LA Z h b8 (List.replicate cp (0 : Int64))) := by
  refine own_enter (plainFor_of_name own_pn_com_example_defnot_defnot_CuckooStash) ?_
  intro p e s m below meth c s₁ P hx hby hml hrt hlk hown hnm hZ X0 e0 hP
  have N0 := Fr.nil n0
  have K0 := Keep.refl h0 [o0]
  have hml' : c.maxLocals = 3 := hml
  refine own_cast (own_efinit m o0 p1) ?_
  show own_End p e below P (s₁.setTop (mkF m 0 #[.val (.ref o0), .val (.int p1), .unset] []))
  refine own_st (fun _ => XS.aloadN X0.here hx rfl (hb hby own_dinit_0) rfl rfl) ?_
  show own_End p e below P (s₁.setTop (mkF m 1 #[.val (.ref o0), .val (.int p1), .unset] [(.ref o0)]))
  obtain ⟨T1, X1, e1, st1⟩ := initO X0 hx hZ hown (hw _ (List.mem_of_getElem? (i := 6) rfl)) (hw _ (List.mem_of_getElem? (i := 7) rfl)) (hw _ (List.mem_of_getElem? (i := 8) rfl)) e0 (g := (mkF m 1 #[.val (.ref o0), .val (.int p1), .unset] [(.ref o0)])) rfl (by rw [hml']; rfl) rfl (hb hby own_dinit_1) (by decide) (W := 0) (by show 2 * 0 + _ ≤ _; exact Nat.le_of_eq rfl) (by decide)
  refine own_st (fun _ => st1 _) ?_
  show own_End p e below P (T1.setTop (mkF m 4 #[.val (.ref o0), .val (.int p1), .unset] []))
  refine own_st (fun _ => XS.iloadN X1.here hx rfl (hb hby own_dinit_4) rfl) ?_
  show own_End p e below P (T1.setTop (mkF m 5 #[.val (.ref o0), .val (.int p1), .unset] [(.int p1)]))
  refine own_callS X1 hx hZ (y := (⟨"com/example/defnot/defnot/CuckooStash", "places", "(I)I"⟩ : MethodName)) hown (hw _ (List.mem_of_getElem? (i := 9) rfl)) (hw _ (List.mem_of_getElem? (i := 10) rfl)) (hw _ (List.mem_of_getElem? (i := 2) rfl)) (hw _ (List.mem_of_getElem? (i := 11) rfl)) (by decide) (own_mplaces l Z a0 hw [] p1  h0 n0 (Nat.le_trans Z0 K0.1) hm) 0 (by decide) (by decide) e1 (by decide) (by decide) (g := (mkF m 5 #[.val (.ref o0), .val (.int p1), .unset] [(.int p1)])) rfl (by rw [hml']; rfl) (argsL := [(.int p1)]) (rest := []) rfl (lenOf own_pd_I_I_227 rfl) rfl (by show 2 * 0 + _ ≤ _; exact Nat.le_of_eq rfl) (hb hby own_dinit_5) (fun r2 T2 L2 X2 hQ2 => ?_)
  obtain ⟨rfl, Nq2, eq2⟩ := hQ2
  have N2 := Fr.app N0 Nq2
  show own_End p e below P (T2.setTop (mkF m 8 #[.val (.ref o0), .val (.int p1), .unset] [(.int (own_plc p1))]))
  refine own_st (fun _ => XS.istoreN X2.here hx rfl (hb hby own_dinit_8) rfl (l' := #[.val (.ref o0), .val (.int p1), .val (.int (own_plc p1))]) rfl) ?_
  show own_End p e below P (T2.setTop (mkF m 9 #[.val (.ref o0), .val (.int p1), .val (.int (own_plc p1))] []))
  refine own_st (fun _ => XS.aloadN X2.here hx rfl (hb hby own_dinit_9) rfl rfl) ?_
  show own_End p e below P (T2.setTop (mkF m 10 #[.val (.ref o0), .val (.int p1), .val (.int (own_plc p1))] [(.ref o0)]))
  refine own_st (fun _ => XS.iloadN X2.here hx rfl (hb hby own_dinit_10) rfl) ?_
  show own_End p e below P (T2.setTop (mkF m 11 #[.val (.ref o0), .val (.int p1), .val (.int (own_plc p1))] [(.int (own_plc p1)), (.ref o0)]))
  refine own_newJ X2 hx hZ (hw _ (List.mem_of_getElem? (i := 14) rfl)) eq2 (j := (own_plc p1)) (n := cp) hcp 32768 hc2 (by decide) (by decide) (by decide) (g := (mkF m 11 #[.val (.ref o0), .val (.int p1), .val (.int (own_plc p1))] [(.int (own_plc p1)), (.ref o0)])) rfl rfl (hb hby own_dinit_11) (fun T3 h3 X3 e3 E3 B3 => ?_)
  obtain ⟨b3, g3⟩ : ∃ z, z = h0.size := ⟨_, rfl⟩
  rw [← g3] at B3 ⊢
  have ne4 : o0 ≠ b3 := Nat.ne_of_lt (Nat.lt_of_lt_of_le E_o0.lt (Nat.le_of_eq g3.symm))
  have low_b3 : n0 ≤ b3 := Nat.le_trans (Nat.le_trans Z0 K0.1) (Nat.le_of_eq g3.symm)
  have sz_b3 : h0.size ≤ b3 := Nat.le_trans K0.1 (Nat.le_of_eq g3.symm)
  have K3 := Keep.ext K0 E3
  have A3 : own_LA Z h3 b3 (List.replicate cp (0 : Int64)) := B3
  show own_End p e below P (T3.setTop (mkF m 13 #[.val (.ref o0), .val (.int p1), .val (.int (own_plc p1))] [(.ref b3), (.ref o0)]))
  have G5 := (F_o0_entries.ext E3)
  have G6 := (E_o0.ext E3)
  obtain ⟨T7, h7, X7, e7, W7, st7⟩ := putF X3 hx hZ hown (host := "") (Or.inl (hw _ (List.mem_of_getElem? (i := 15) rfl))) Via.refl e3 G5 G6 (Or.inl (hw _ (List.mem_of_getElem? (i := 16) rfl))) (hw _ (List.mem_of_getElem? (i := 1) rfl)) (ty := (.array .long)) (by decide) rfl rfl (g := (mkF m 13 #[.val (.ref o0), .val (.int p1), .val (.int (own_plc p1))] [(.ref b3), (.ref o0)])) rfl rfl (hb hby own_dinit_13)
  have N7 := Fr.snoc X7 N2 low_o0
  have K7 := Keep.wr K3 W7 (Or.inl (List.mem_of_getElem? (i := 0) rfl))
  have F7 := G5.same W7
  refine own_st (fun _ => st7 _) ?_
  show own_End p e below P (T7.setTop (mkF m 16 #[.val (.ref o0), .val (.int p1), .val (.int (own_plc p1))] []))
  refine own_st (fun _ => XS.aloadN X7.here hx rfl (hb hby own_dinit_16) rfl rfl) ?_
  show own_End p e below P (T7.setTop (mkF m 17 #[.val (.ref o0), .val (.int p1), .val (.int (own_plc p1))] [(.ref o0)]))
  refine own_st (fun _ => XS.iloadN X7.here hx rfl (hb hby own_dinit_17) rfl) ?_
  show own_End p e below P (T7.setTop (mkF m 18 #[.val (.ref o0), .val (.int p1), .val (.int (own_plc p1))] [(.int (own_plc p1)), (.ref o0)]))
  refine own_newJ X7 hx hZ (hw _ (List.mem_of_getElem? (i := 14) rfl)) e7 (j := (own_plc p1)) (n := cp) hcp 32768 hc2 (by decide) (by decide) (by decide) (g := (mkF m 18 #[.val (.ref o0), .val (.int p1), .val (.int (own_plc p1))] [(.int (own_plc p1)), (.ref o0)])) rfl rfl (hb hby own_dinit_18) (fun T8 h8 X8 e8 E8 B8 => ?_)
  obtain ⟨b8, g8⟩ : ∃ z, z = h7.size := ⟨_, rfl⟩
  rw [← g8] at B8 ⊢
  have G10 := (A3.other W7 (Ne.symm ne4))
  have ne9 : b3 ≠ b8 := Nat.ne_of_lt (Nat.lt_of_lt_of_le G10.lt (Nat.le_of_eq g8.symm))
  have G12 := (G6.wr W7)
  have ne11 : o0 ≠ b8 := Nat.ne_of_lt (Nat.lt_of_lt_of_le G12.lt (Nat.le_of_eq g8.symm))
  have low_b8 : n0 ≤ b8 := Nat.le_trans (Nat.le_trans Z0 K7.1) (Nat.le_of_eq g8.symm)
  have sz_b8 : h0.size ≤ b8 := Nat.le_trans K7.1 (Nat.le_of_eq g8.symm)
  have K8 := Keep.ext K7 E8
  have A8 : own_LA Z h8 b8 (List.replicate cp (0 : Int64)) := B8
  show own_End p e below P (T8.setTop (mkF m 20 #[.val (.ref o0), .val (.int p1), .val (.int (own_plc p1))] [(.ref b8), (.ref o0)]))
  have G13 := (((F_o0_counts.ext E3).other W7 (Or.inr (slot_ne (Or.inl (hw _ (List.mem_of_getElem? (i := 18) rfl))) (Or.inl (hw _ (List.mem_of_getElem? (i := 16) rfl))) (by decide) (t := (.array .long)) (t' := (.array .long)) (by decide) (by decide)))).ext E8)
  have G14 := (G12.ext E8)
  obtain ⟨T15, h15, X15, e15, W15, st15⟩ := putF X8 hx hZ hown (host := "") (Or.inl (hw _ (List.mem_of_getElem? (i := 17) rfl))) Via.refl e8 G13 G14 (Or.inl (hw _ (List.mem_of_getElem? (i := 18) rfl))) (hw _ (List.mem_of_getElem? (i := 1) rfl)) (ty := (.array .long)) (by decide) rfl rfl (g := (mkF m 20 #[.val (.ref o0), .val (.int p1), .val (.int (own_plc p1))] [(.ref b8), (.ref o0)])) rfl rfl (hb hby own_dinit_20)
  have N15 := Fr.snoc X15 N7 low_o0
  have K15 := Keep.wr K8 W15 (Or.inl (List.mem_of_getElem? (i := 0) rfl))
  have F15 := G13.same W15
  refine own_st (fun _ => st15 _) ?_
  show own_End p e below P (T15.setTop (mkF m 23 #[.val (.ref o0), .val (.int p1), .val (.int (own_plc p1))] []))
  have G16 := (G14.wr W15)
  have G17 := ((F7.ext E8).other W15 (Or.inr (slot_ne (Or.inl (hw _ (List.mem_of_getElem? (i := 16) rfl))) (Or.inl (hw _ (List.mem_of_getElem? (i := 18) rfl))) (by decide) (t := (.array .long)) (t' := (.array .long)) (by decide) (by decide))))
  have G18 := ((((F_o0_size.ext E3).other W7 (Or.inr (slot_ne (Or.inl (hw _ (List.mem_of_getElem? (i := 36) rfl))) (Or.inl (hw _ (List.mem_of_getElem? (i := 16) rfl))) (by decide) (t := .int) (t' := (.array .long)) (by decide) (by decide)))).ext E8).other W15 (Or.inr (slot_ne (Or.inl (hw _ (List.mem_of_getElem? (i := 36) rfl))) (Or.inl (hw _ (List.mem_of_getElem? (i := 18) rfl))) (by decide) (t := .int) (t' := (.array .long)) (by decide) (by decide))))
  have G19 := ((((F_o0_copies.ext E3).other W7 (Or.inr (slot_ne (Or.inl (hw _ (List.mem_of_getElem? (i := 48) rfl))) (Or.inl (hw _ (List.mem_of_getElem? (i := 16) rfl))) (by decide) (t := .long) (t' := (.array .long)) (by decide) (by decide)))).ext E8).other W15 (Or.inr (slot_ne (Or.inl (hw _ (List.mem_of_getElem? (i := 48) rfl))) (Or.inl (hw _ (List.mem_of_getElem? (i := 18) rfl))) (by decide) (t := .long) (t' := (.array .long)) (by decide) (by decide))))
  have G20 := ((G10.ext E8).other W15 (Ne.symm ne4))
  have G21 := (A8.other W15 (Ne.symm ne11))
  have hfin : ((fun (v : Option Value) (h : Heap) (L : List Loc) => ∃ (b3 : Addr) (b8 : Addr), v = none ∧ Fr n0 L ∧ Keep h0 h [o0] ∧ h0.size ≤ b3 ∧ n0 ≤ b3 ∧ h0.size ≤ b8 ∧ n0 ≤ b8 ∧ b3 ≠ b8 ∧ Exa Z h o0 "com/example/defnot/defnot/CuckooStash" ∧ Fld Z h o0 "com/example/defnot/defnot/CuckooStash" "entries" "[J" (.ref b3) ∧ Fld Z h o0 "com/example/defnot/defnot/CuckooStash" "counts" "[J" (.ref b8) ∧ Fld Z h o0 "com/example/defnot/defnot/CuckooStash" "size" "I" (.int (0 : Int32)) ∧ Fld Z h o0 "com/example/defnot/defnot/CuckooStash" "copies" "J" (.long (0 : Int64)) ∧ own_LA Z h b3 (List.replicate cp (0 : Int64)) ∧ own_LA Z h b8 (List.replicate cp (0 : Int64)))) none h15 _ := ⟨b3, b8, rfl, N15, K15, sz_b3, low_b3, sz_b8, low_b8, ne9, G16, G17, F15, G18, G19, G20, G21⟩
  refine own_retV X15 hx hlk hP hrt (hb hby own_dinit_23) (by decide) (by decide) ?_
  rw [e15]; exact hfin
theorem own_dfind_0 : decode prog_8_method_10_code 0 = .ok (.aload_n 0, 1) := by decide +kernel
theorem own_dfind_1 : decode prog_8_method_10_code 1 = .ok (.getfield 16, 3) := by decide +kernel
theorem own_dfind_4 : decode prog_8_method_10_code 4 = .ok (.arraylength, 1) := by decide +kernel
theorem own_dfind_5 : decode prog_8_method_10_code 5 = .ok (.iconst 1, 1) := by decide +kernel
theorem own_dfind_6 : decode prog_8_method_10_code 6 = .ok (.isub, 1) := by decide +kernel
theorem own_dfind_7 : decode prog_8_method_10_code 7 = .ok (.istore_n 3, 1) := by decide +kernel
theorem own_dfind_8 : decode prog_8_method_10_code 8 = .ok (.lload_n 1, 1) := by decide +kernel
theorem own_dfind_9 : decode prog_8_method_10_code 9 = .ok (.invokestatic 57, 3) := by decide +kernel
theorem own_pd_J_J_229 : parseMethodDescriptor "(J)J" = some ⟨[.long], some .long⟩ := by decide +kernel
theorem own_dfind_12 : decode prog_8_method_10_code 12 = .ok (.l2i, 1) := by decide +kernel
theorem own_dfind_13 : decode prog_8_method_10_code 13 = .ok (.iload_n 3, 1) := by decide +kernel
theorem own_dfind_14 : decode prog_8_method_10_code 14 = .ok (.iand, 1) := by decide +kernel
theorem own_dfind_15 : decode prog_8_method_10_code 15 = .ok (.istore 4, 2) := by decide +kernel
theorem own_dfind_17 : decode prog_8_method_10_code 17 = .ok (.aload_n 0, 1) := by decide +kernel
theorem own_dfind_18 : decode prog_8_method_10_code 18 = .ok (.getfield 16, 3) := by decide +kernel
theorem own_dfind_21 : decode prog_8_method_10_code 21 = .ok (.iload 4, 2) := by decide +kernel
theorem own_dfind_23 : decode prog_8_method_10_code 23 = .ok (.laload, 1) := by decide +kernel
theorem own_dfind_24 : decode prog_8_method_10_code 24 = .ok (.lconst 0, 1) := by decide +kernel
theorem own_dfind_25 : decode prog_8_method_10_code 25 = .ok (.lcmp, 1) := by decide +kernel
theorem own_dfind_26 : decode prog_8_method_10_code 26 = .ok (.ifCond .eq 26, 3) := by decide +kernel
theorem own_dfind_52 : decode prog_8_method_10_code 52 = .ok (.iload 4, 2) := by decide +kernel
theorem own_dfind_54 : decode prog_8_method_10_code 54 = .ok (.ireturn, 1) := by decide +kernel
theorem own_effind (m : MethodId) (o0 : Addr) (q1 : Int64) : entryFrame m #[(.ref o0), (.long q1)] 5 = mkF m 0 #[.val (.ref o0), .val (.long q1), .second, .unset, .unset] [] := by first | (simp [entryFrame, mkF, argsToLocals, Value.category]; done) | rfl
def own_ffind (q1 : Int64) (cp : Nat) : Int32 := (((own_ffin q1).toInt32) &&& ((Int32.ofNat (List.replicate cp (0 : Int64)).length) - (1 : Int32)))
set_option maxRecDepth 65536 in
set_option maxHeartbeats 40000000 in
theorem own_mfind (l : Launch) (Z : State) (a0 : Array Value) (hw : ∀ d ∈ tables_1, d.before a0 Z = true) (ws : List Jvm.Cond) (o0 : Addr) (q1 : Int64) (cp : Nat) (w_o0_entries : Addr) (h0 : Heap) (n0 : Nat) (Z0 : n0 ≤ h0.size) (F_o0_entries : Fld Z h0 o0 "com/example/defnot/defnot/CuckooStash" "entries" "[J" (.ref w_o0_entries)) (A_w_o0_entries : own_LA Z h0 w_o0_entries (List.replicate cp (0 : Int64))) (hc1 : 1 ≤ cp) (hc2 : cp ≤ 32768) :
    own_Met l Z (⟨"com/example/defnot/defnot/CuckooStash", "find", "(J)I"⟩ : MethodName) prog_8_method_10_code 5 (some .int) ws ({ frames := 1, cells := 0, slots := 0, locals := 15 } : Room) #[(.ref o0), (.long q1)] h0 (fun (v : Option Value) (h : Heap) (L : List Loc) => v = some (.int (own_ffind q1 cp)) ∧ Fr n0 L ∧ h = h0) := by
  refine own_enter (plainFor_of_name own_pn_com_example_defnot_defnot_CuckooStash) ?_
  intro p e s m below meth c s₁ P hx hby hml hrt hlk hown hnm hZ X0 e0 hP
  have N0 := Fr.nil n0
  have K0 := Keep.refl h0 []
  have hml' : c.maxLocals = 5 := hml
  refine own_cast (own_effind m o0 q1) ?_
  show own_End p e below P (s₁.setTop (mkF m 0 #[.val (.ref o0), .val (.long q1), .second, .unset, .unset] []))
  refine own_st (fun _ => XS.aloadN X0.here hx rfl (hb hby own_dfind_0) rfl rfl) ?_
  show own_End p e below P (s₁.setTop (mkF m 1 #[.val (.ref o0), .val (.long q1), .second, .unset, .unset] [(.ref o0)]))
  obtain ⟨T1, X1, e1, st1⟩ := getF X0 hx hZ hown (host := "") (Or.inl (hw _ (List.mem_of_getElem? (i := 15) rfl))) Via.refl e0 F_o0_entries (g := (mkF m 1 #[.val (.ref o0), .val (.long q1), .second, .unset, .unset] [(.ref o0)])) rfl rfl (hb hby own_dfind_1)
  refine own_st (fun _ => st1 _) ?_
  show own_End p e below P (T1.setTop (mkF m 4 #[.val (.ref o0), .val (.long q1), .second, .unset, .unset] [(.ref w_o0_entries)]))
  refine own_alenJ X1 hx hZ e1 A_w_o0_entries (g := (mkF m 4 #[.val (.ref o0), .val (.long q1), .second, .unset, .unset] [(.ref w_o0_entries)])) rfl rfl (hb hby own_dfind_4) ?_
  show own_End p e below P (T1.setTop (mkF m 5 #[.val (.ref o0), .val (.long q1), .second, .unset, .unset] [(.int (Int32.ofNat (List.replicate cp (0 : Int64)).length))]))
  refine own_st (fun _ => XS.iconst X1.here hx rfl (hb hby own_dfind_5)) ?_
  show own_End p e below P (T1.setTop (mkF m 6 #[.val (.ref o0), .val (.long q1), .second, .unset, .unset] [(.int (1 : Int32)), (.int (Int32.ofNat (List.replicate cp (0 : Int64)).length))]))
  refine own_st (fun _ => XS.isub X1.here hx rfl (hb hby own_dfind_6) rfl) ?_
  show own_End p e below P (T1.setTop (mkF m 7 #[.val (.ref o0), .val (.long q1), .second, .unset, .unset] [(.int ((Int32.ofNat (List.replicate cp (0 : Int64)).length) - (1 : Int32)))]))
  refine own_st (fun _ => XS.istoreN X1.here hx rfl (hb hby own_dfind_7) rfl (l' := #[.val (.ref o0), .val (.long q1), .second, .val (.int ((Int32.ofNat (List.replicate cp (0 : Int64)).length) - (1 : Int32))), .unset]) rfl) ?_
  show own_End p e below P (T1.setTop (mkF m 8 #[.val (.ref o0), .val (.long q1), .second, .val (.int ((Int32.ofNat (List.replicate cp (0 : Int64)).length) - (1 : Int32))), .unset] []))
  refine own_st (fun _ => XS.lloadN X1.here hx rfl (hb hby own_dfind_8) rfl) ?_
  show own_End p e below P (T1.setTop (mkF m 9 #[.val (.ref o0), .val (.long q1), .second, .val (.int ((Int32.ofNat (List.replicate cp (0 : Int64)).length) - (1 : Int32))), .unset] [(.long q1)]))
  refine own_callS X1 hx hZ (y := (⟨"com/example/defnot/defnot/MurmurHash3", "finish", "(J)J"⟩ : MethodName)) hown (hw _ (List.mem_of_getElem? (i := 41) rfl)) (hw _ (List.mem_of_getElem? (i := 42) rfl)) (hw _ (List.mem_of_getElem? (i := 43) rfl)) (hw _ (List.mem_of_getElem? (i := 44) rfl)) (by decide) (own_mfin l Z a0 hw [] q1  h0 n0 (Nat.le_trans Z0 K0.1) ) 0 (by decide) (by decide) e1 (by decide) (by decide) (g := (mkF m 9 #[.val (.ref o0), .val (.long q1), .second, .val (.int ((Int32.ofNat (List.replicate cp (0 : Int64)).length) - (1 : Int32))), .unset] [(.long q1)])) rfl (by rw [hml']; rfl) (argsL := [(.long q1)]) (rest := []) rfl (lenOf own_pd_J_J_229 rfl) rfl (by show 2 * 0 + _ ≤ _; exact Nat.le_of_eq rfl) (hb hby own_dfind_9) (fun r2 T2 L2 X2 hQ2 => ?_)
  obtain ⟨rfl, Nq2, eq2⟩ := hQ2
  have N2 := Fr.app N0 Nq2
  show own_End p e below P (T2.setTop (mkF m 12 #[.val (.ref o0), .val (.long q1), .second, .val (.int ((Int32.ofNat (List.replicate cp (0 : Int64)).length) - (1 : Int32))), .unset] [(.long (own_ffin q1))]))
  refine own_st (fun _ => XS.l2i X2.here hx rfl (hb hby own_dfind_12) rfl) ?_
  show own_End p e below P (T2.setTop (mkF m 13 #[.val (.ref o0), .val (.long q1), .second, .val (.int ((Int32.ofNat (List.replicate cp (0 : Int64)).length) - (1 : Int32))), .unset] [(.int ((own_ffin q1).toInt32))]))
  refine own_st (fun _ => XS.iloadN X2.here hx rfl (hb hby own_dfind_13) rfl) ?_
  show own_End p e below P (T2.setTop (mkF m 14 #[.val (.ref o0), .val (.long q1), .second, .val (.int ((Int32.ofNat (List.replicate cp (0 : Int64)).length) - (1 : Int32))), .unset] [(.int ((Int32.ofNat (List.replicate cp (0 : Int64)).length) - (1 : Int32))), (.int ((own_ffin q1).toInt32))]))
  refine own_st (fun _ => XS.iand X2.here hx rfl (hb hby own_dfind_14) rfl) ?_
  show own_End p e below P (T2.setTop (mkF m 15 #[.val (.ref o0), .val (.long q1), .second, .val (.int ((Int32.ofNat (List.replicate cp (0 : Int64)).length) - (1 : Int32))), .unset] [(.int (((own_ffin q1).toInt32) &&& ((Int32.ofNat (List.replicate cp (0 : Int64)).length) - (1 : Int32))))]))
  refine own_st (fun _ => XS.istore X2.here hx rfl (hb hby own_dfind_15) rfl (l' := #[.val (.ref o0), .val (.long q1), .second, .val (.int ((Int32.ofNat (List.replicate cp (0 : Int64)).length) - (1 : Int32))), .val (.int (((own_ffin q1).toInt32) &&& ((Int32.ofNat (List.replicate cp (0 : Int64)).length) - (1 : Int32))))]) rfl) ?_
  show own_End p e below P (T2.setTop (mkF m 17 #[.val (.ref o0), .val (.long q1), .second, .val (.int ((Int32.ofNat (List.replicate cp (0 : Int64)).length) - (1 : Int32))), .val (.int (((own_ffin q1).toInt32) &&& ((Int32.ofNat (List.replicate cp (0 : Int64)).length) - (1 : Int32))))] []))
  refine own_st (fun _ => XS.aloadN X2.here hx rfl (hb hby own_dfind_17) rfl rfl) ?_
  show own_End p e below P (T2.setTop (mkF m 18 #[.val (.ref o0), .val (.long q1), .second, .val (.int ((Int32.ofNat (List.replicate cp (0 : Int64)).length) - (1 : Int32))), .val (.int (((own_ffin q1).toInt32) &&& ((Int32.ofNat (List.replicate cp (0 : Int64)).length) - (1 : Int32))))] [(.ref o0)]))
  obtain ⟨T3, X3, e3, st3⟩ := getF X2 hx hZ hown (host := "") (Or.inl (hw _ (List.mem_of_getElem? (i := 15) rfl))) Via.refl eq2 F_o0_entries (g := (mkF m 18 #[.val (.ref o0), .val (.long q1), .second, .val (.int ((Int32.ofNat (List.replicate cp (0 : Int64)).length) - (1 : Int32))), .val (.int (((own_ffin q1).toInt32) &&& ((Int32.ofNat (List.replicate cp (0 : Int64)).length) - (1 : Int32))))] [(.ref o0)])) rfl rfl (hb hby own_dfind_18)
  refine own_st (fun _ => st3 _) ?_
  show own_End p e below P (T3.setTop (mkF m 21 #[.val (.ref o0), .val (.long q1), .second, .val (.int ((Int32.ofNat (List.replicate cp (0 : Int64)).length) - (1 : Int32))), .val (.int (((own_ffin q1).toInt32) &&& ((Int32.ofNat (List.replicate cp (0 : Int64)).length) - (1 : Int32))))] [(.ref w_o0_entries)]))
  refine own_st (fun _ => XS.iload X3.here hx rfl (hb hby own_dfind_21) rfl) ?_
  show own_End p e below P (T3.setTop (mkF m 23 #[.val (.ref o0), .val (.long q1), .second, .val (.int ((Int32.ofNat (List.replicate cp (0 : Int64)).length) - (1 : Int32))), .val (.int (((own_ffin q1).toInt32) &&& ((Int32.ofNat (List.replicate cp (0 : Int64)).length) - (1 : Int32))))] [(.int (((own_ffin q1).toInt32) &&& ((Int32.ofNat (List.replicate cp (0 : Int64)).length) - (1 : Int32)))), (.ref w_o0_entries)]))
  refine own_laload X3 hx hZ e3 A_w_o0_entries (j := (((own_ffin q1).toInt32) &&& ((Int32.ofNat (List.replicate cp (0 : Int64)).length) - (1 : Int32)))) (v := (0 : Int64)) (i := ((((own_ffin q1).toInt32) &&& ((Int32.ofNat (List.replicate cp (0 : Int64)).length) - (1 : Int32)))).toNatClampNeg) (own_idx _ hc1 hc2).1 (own_rep (own_idx _ hc1 hc2).2) (g := (mkF m 23 #[.val (.ref o0), .val (.long q1), .second, .val (.int ((Int32.ofNat (List.replicate cp (0 : Int64)).length) - (1 : Int32))), .val (.int (((own_ffin q1).toInt32) &&& ((Int32.ofNat (List.replicate cp (0 : Int64)).length) - (1 : Int32))))] [(.int (((own_ffin q1).toInt32) &&& ((Int32.ofNat (List.replicate cp (0 : Int64)).length) - (1 : Int32)))), (.ref w_o0_entries)])) rfl rfl (hb hby own_dfind_23) ?_
  show own_End p e below P (T3.setTop (mkF m 24 #[.val (.ref o0), .val (.long q1), .second, .val (.int ((Int32.ofNat (List.replicate cp (0 : Int64)).length) - (1 : Int32))), .val (.int (((own_ffin q1).toInt32) &&& ((Int32.ofNat (List.replicate cp (0 : Int64)).length) - (1 : Int32))))] [(.long (0 : Int64))]))
  refine own_st (fun _ => XS.lconst X3.here hx rfl (hb hby own_dfind_24)) ?_
  show own_End p e below P (T3.setTop (mkF m 25 #[.val (.ref o0), .val (.long q1), .second, .val (.int ((Int32.ofNat (List.replicate cp (0 : Int64)).length) - (1 : Int32))), .val (.int (((own_ffin q1).toInt32) &&& ((Int32.ofNat (List.replicate cp (0 : Int64)).length) - (1 : Int32))))] [(.long (0 : Int64)), (.long (0 : Int64))]))
  refine own_st (fun _ => XS.lcmp X3.here hx rfl (hb hby own_dfind_25) rfl) ?_
  show own_End p e below P (T3.setTop (mkF m 26 #[.val (.ref o0), .val (.long q1), .second, .val (.int ((Int32.ofNat (List.replicate cp (0 : Int64)).length) - (1 : Int32))), .val (.int (((own_ffin q1).toInt32) &&& ((Int32.ofNat (List.replicate cp (0 : Int64)).length) - (1 : Int32))))] [(.int (lcmpW (0 : Int64) (0 : Int64)))]))
  refine own_st (fun _ => XS.ifYes X3.here hx rfl (pc0 := 26) (pc' := 52) rfl (hb hby own_dfind_26) rfl ((if0 _ _).trans (teq (own_eq.mpr (by decide : (0 : Int64) = (0 : Int64)))).1) (by decide) (by decide)) ?_
  show own_End p e below P (T3.setTop (mkF m 52 #[.val (.ref o0), .val (.long q1), .second, .val (.int ((Int32.ofNat (List.replicate cp (0 : Int64)).length) - (1 : Int32))), .val (.int (((own_ffin q1).toInt32) &&& ((Int32.ofNat (List.replicate cp (0 : Int64)).length) - (1 : Int32))))] []))
  refine own_st (fun _ => XS.iload X3.here hx rfl (hb hby own_dfind_52) rfl) ?_
  show own_End p e below P (T3.setTop (mkF m 54 #[.val (.ref o0), .val (.long q1), .second, .val (.int ((Int32.ofNat (List.replicate cp (0 : Int64)).length) - (1 : Int32))), .val (.int (((own_ffin q1).toInt32) &&& ((Int32.ofNat (List.replicate cp (0 : Int64)).length) - (1 : Int32))))] [(.int (((own_ffin q1).toInt32) &&& ((Int32.ofNat (List.replicate cp (0 : Int64)).length) - (1 : Int32))))]))
  refine own_retI X3 hx hlk hP hrt (hb hby own_dfind_54) (by decide) (by decide) ⟨congrArg (fun z => some (Value.int z)) ?_, N2, e3⟩
  exact (show own_ffind q1 cp = (((own_ffin q1).toInt32) &&& ((Int32.ofNat (List.replicate cp (0 : Int64)).length) - (1 : Int32))) from rfl).symm
theorem own_dadd_0 : decode prog_8_method_7_code 0 = .ok (.ldc2_w 37, 3) := by decide +kernel
theorem own_dadd_3 : decode prog_8_method_7_code 3 = .ok (.aload_n 0, 1) := by decide +kernel
theorem own_dadd_4 : decode prog_8_method_7_code 4 = .ok (.getfield 29, 3) := by decide +kernel
theorem own_dadd_7 : decode prog_8_method_7_code 7 = .ok (.iconst 1, 1) := by decide +kernel
theorem own_dadd_8 : decode prog_8_method_7_code 8 = .ok (.iadd, 1) := by decide +kernel
theorem own_dadd_9 : decode prog_8_method_7_code 9 = .ok (.i2l, 1) := by decide +kernel
theorem own_dadd_10 : decode prog_8_method_7_code 10 = .ok (.lmul, 1) := by decide +kernel
theorem own_dadd_11 : decode prog_8_method_7_code 11 = .ok (.ldc2_w 39, 3) := by decide +kernel
theorem own_dadd_14 : decode prog_8_method_7_code 14 = .ok (.aload_n 0, 1) := by decide +kernel
theorem own_dadd_15 : decode prog_8_method_7_code 15 = .ok (.getfield 16, 3) := by decide +kernel
theorem own_dadd_18 : decode prog_8_method_7_code 18 = .ok (.arraylength, 1) := by decide +kernel
theorem own_dadd_19 : decode prog_8_method_7_code 19 = .ok (.i2l, 1) := by decide +kernel
theorem own_dadd_20 : decode prog_8_method_7_code 20 = .ok (.lmul, 1) := by decide +kernel
theorem own_dadd_21 : decode prog_8_method_7_code 21 = .ok (.lcmp, 1) := by decide +kernel
theorem own_dadd_22 : decode prog_8_method_7_code 22 = .ok (.ifCond .le 7, 3) := by decide +kernel
theorem own_dadd_29 : decode prog_8_method_7_code 29 = .ok (.aload_n 0, 1) := by decide +kernel
theorem own_dadd_30 : decode prog_8_method_7_code 30 = .ok (.lload_n 1, 1) := by decide +kernel
theorem own_dadd_31 : decode prog_8_method_7_code 31 = .ok (.invokevirtual 44, 3) := by decide +kernel
theorem own_pd_J_I_228 : parseMethodDescriptor "(J)I" = some ⟨[.long], some .int⟩ := by decide +kernel
theorem own_dadd_34 : decode prog_8_method_7_code 34 = .ok (.istore 5, 2) := by decide +kernel
theorem own_dadd_36 : decode prog_8_method_7_code 36 = .ok (.aload_n 0, 1) := by decide +kernel
theorem own_dadd_37 : decode prog_8_method_7_code 37 = .ok (.getfield 16, 3) := by decide +kernel
theorem own_dadd_40 : decode prog_8_method_7_code 40 = .ok (.iload 5, 2) := by decide +kernel
theorem own_dadd_42 : decode prog_8_method_7_code 42 = .ok (.laload, 1) := by decide +kernel
theorem own_dadd_43 : decode prog_8_method_7_code 43 = .ok (.lconst 0, 1) := by decide +kernel
theorem own_dadd_44 : decode prog_8_method_7_code 44 = .ok (.lcmp, 1) := by decide +kernel
theorem own_dadd_45 : decode prog_8_method_7_code 45 = .ok (.ifCond .ne 21, 3) := by decide +kernel
theorem own_dadd_48 : decode prog_8_method_7_code 48 = .ok (.aload_n 0, 1) := by decide +kernel
theorem own_dadd_49 : decode prog_8_method_7_code 49 = .ok (.getfield 16, 3) := by decide +kernel
theorem own_dadd_52 : decode prog_8_method_7_code 52 = .ok (.iload 5, 2) := by decide +kernel
theorem own_dadd_54 : decode prog_8_method_7_code 54 = .ok (.lload_n 1, 1) := by decide +kernel
theorem own_dadd_55 : decode prog_8_method_7_code 55 = .ok (.lastore, 1) := by decide +kernel
theorem own_dadd_56 : decode prog_8_method_7_code 56 = .ok (.aload_n 0, 1) := by decide +kernel
theorem own_dadd_57 : decode prog_8_method_7_code 57 = .ok (.dup, 1) := by decide +kernel
theorem own_dadd_58 : decode prog_8_method_7_code 58 = .ok (.getfield 29, 3) := by decide +kernel
theorem own_dadd_61 : decode prog_8_method_7_code 61 = .ok (.iconst 1, 1) := by decide +kernel
theorem own_dadd_62 : decode prog_8_method_7_code 62 = .ok (.iadd, 1) := by decide +kernel
theorem own_dadd_63 : decode prog_8_method_7_code 63 = .ok (.putfield 29, 3) := by decide +kernel
theorem own_dadd_66 : decode prog_8_method_7_code 66 = .ok (.aload_n 0, 1) := by decide +kernel
theorem own_dadd_67 : decode prog_8_method_7_code 67 = .ok (.getfield 20, 3) := by decide +kernel
theorem own_dadd_70 : decode prog_8_method_7_code 70 = .ok (.iload 5, 2) := by decide +kernel
theorem own_dadd_72 : decode prog_8_method_7_code 72 = .ok (.dup2, 1) := by decide +kernel
theorem own_dadd_73 : decode prog_8_method_7_code 73 = .ok (.laload, 1) := by decide +kernel
theorem own_dadd_74 : decode prog_8_method_7_code 74 = .ok (.lload_n 3, 1) := by decide +kernel
theorem own_dadd_75 : decode prog_8_method_7_code 75 = .ok (.ladd, 1) := by decide +kernel
theorem own_dadd_76 : decode prog_8_method_7_code 76 = .ok (.lastore, 1) := by decide +kernel
theorem own_dadd_77 : decode prog_8_method_7_code 77 = .ok (.aload_n 0, 1) := by decide +kernel
theorem own_dadd_78 : decode prog_8_method_7_code 78 = .ok (.dup, 1) := by decide +kernel
theorem own_dadd_79 : decode prog_8_method_7_code 79 = .ok (.getfield 33, 3) := by decide +kernel
theorem own_dadd_82 : decode prog_8_method_7_code 82 = .ok (.lload_n 3, 1) := by decide +kernel
theorem own_dadd_83 : decode prog_8_method_7_code 83 = .ok (.ladd, 1) := by decide +kernel
theorem own_dadd_84 : decode prog_8_method_7_code 84 = .ok (.putfield 33, 3) := by decide +kernel
theorem own_dadd_87 : decode prog_8_method_7_code 87 = .ok (.return_, 1) := by decide +kernel
theorem own_efadd (m : MethodId) (o0 : Addr) (q1 : Int64) (q2 : Int64) : entryFrame m #[(.ref o0), (.long q1), (.long q2)] 6 = mkF m 0 #[.val (.ref o0), .val (.long q1), .second, .val (.long q2), .second, .unset] [] := by first | (simp [entryFrame, mkF, argsToLocals, Value.category]; done) | rfl
set_option maxRecDepth 65536 in
set_option maxHeartbeats 40000000 in
theorem own_madd (l : Launch) (Z : State) (a0 : Array Value) (hw : ∀ d ∈ tables_1, d.before a0 Z = true) (ws : List Jvm.Cond) (o0 : Addr) (q1 : Int64) (q2 : Int64) (cp : Nat) (w_o0_entries : Addr) (w_o0_counts : Addr) (h0 : Heap) (n0 : Nat) (Z0 : n0 ≤ h0.size) (E_o0 : Exa Z h0 o0 "com/example/defnot/defnot/CuckooStash") (F_o0_entries : Fld Z h0 o0 "com/example/defnot/defnot/CuckooStash" "entries" "[J" (.ref w_o0_entries)) (F_o0_counts : Fld Z h0 o0 "com/example/defnot/defnot/CuckooStash" "counts" "[J" (.ref w_o0_counts)) (F_o0_size : Fld Z h0 o0 "com/example/defnot/defnot/CuckooStash" "size" "I" (.int (0 : Int32))) (F_o0_copies : Fld Z h0 o0 "com/example/defnot/defnot/CuckooStash" "copies" "J" (.long (0 : Int64))) (A_w_o0_entries : own_LA Z h0 w_o0_entries (List.replicate cp (0 : Int64))) (A_w_o0_counts : own_LA Z h0 w_o0_counts (List.replicate cp (0 : Int64))) (low_o0 : n0 ≤ o0) (low_w_o0_entries : n0 ≤ w_o0_entries) (low_w_o0_counts : n0 ≤ w_o0_counts) (ne_o0_w_o0_entries : o0 ≠ w_o0_entries) (ne_o0_w_o0_counts : o0 ≠ w_o0_counts) (ne_w_o0_entries_w_o0_counts : w_o0_entries ≠ w_o0_counts) (h16 : 16 ≤ cp) (hc2 : cp ≤ 32768) :
    own_Met l Z (⟨"com/example/defnot/defnot/CuckooStash", "add", "(JJ)V"⟩ : MethodName) prog_8_method_7_code 6 none ws ({ frames := 2, cells := 0, slots := 0, locals := 31 } : Room) #[(.ref o0), (.long q1), (.long q2)] h0 (fun (v : Option Value) (h : Heap) (L : List Loc) => v = none ∧ Fr n0 L ∧ Keep h0 h [o0, w_o0_entries, w_o0_counts] ∧ Exa Z h o0 "com/example/defnot/defnot/CuckooStash" ∧ Fld Z h o0 "com/example/defnot/defnot/CuckooStash" "entries" "[J" (.ref w_o0_entries) ∧ Fld Z h o0 "com/example/defnot/defnot/CuckooStash" "counts" "[J" (.ref w_o0_counts) ∧ Fld Z h o0 "com/example/defnot/defnot/CuckooStash" "size" "I" (.int (1 : Int32)) ∧ Fld Z h o0 "com/example/defnot/defnot/CuckooStash" "copies" "J" (.long ((0 : Int64) + q2)) ∧ own_LA Z h w_o0_entries ((List.replicate cp (0 : Int64)).set (own_ffind q1 cp).toNatClampNeg q1) ∧ own_LA Z h w_o0_counts ((List.replicate cp (0 : Int64)).set (own_ffind q1 cp).toNatClampNeg ((0 : Int64) + q2))) := by
  refine own_enter (plainFor_of_name own_pn_com_example_defnot_defnot_CuckooStash) ?_
  intro p e s m below meth c s₁ P hx hby hml hrt hlk hown hnm hZ X0 e0 hP
  have N0 := Fr.nil n0
  have K0 := Keep.refl h0 [o0, w_o0_entries, w_o0_counts]
  have hml' : c.maxLocals = 6 := hml
  refine own_cast (own_efadd m o0 q1 q2) ?_
  have hc1 : 1 ≤ cp := by omega
  show own_End p e below P (s₁.setTop (mkF m 0 #[.val (.ref o0), .val (.long q1), .second, .val (.long q2), .second, .unset] []))
  refine own_st (fun _ => X0.ldc2Long hx hown (mvT hZ (hw _ (List.mem_of_getElem? (i := 12) rfl))) (g := (mkF m 0 #[.val (.ref o0), .val (.long q1), .second, .val (.long q2), .second, .unset] [])) rfl (hb hby own_dadd_0) _) ?_
  show own_End p e below P (s₁.setTop (mkF m 3 #[.val (.ref o0), .val (.long q1), .second, .val (.long q2), .second, .unset] [(.long (4 : Int64))]))
  refine own_st (fun _ => XS.aloadN X0.here hx rfl (hb hby own_dadd_3) rfl rfl) ?_
  show own_End p e below P (s₁.setTop (mkF m 4 #[.val (.ref o0), .val (.long q1), .second, .val (.long q2), .second, .unset] [(.ref o0), (.long (4 : Int64))]))
  obtain ⟨T1, X1, e1, st1⟩ := getF X0 hx hZ hown (host := "") (Or.inl (hw _ (List.mem_of_getElem? (i := 35) rfl))) Via.refl e0 F_o0_size (g := (mkF m 4 #[.val (.ref o0), .val (.long q1), .second, .val (.long q2), .second, .unset] [(.ref o0), (.long (4 : Int64))])) rfl rfl (hb hby own_dadd_4)
  refine own_st (fun _ => st1 _) ?_
  show own_End p e below P (T1.setTop (mkF m 7 #[.val (.ref o0), .val (.long q1), .second, .val (.long q2), .second, .unset] [(.int (0 : Int32)), (.long (4 : Int64))]))
  refine own_st (fun _ => XS.iconst X1.here hx rfl (hb hby own_dadd_7)) ?_
  show own_End p e below P (T1.setTop (mkF m 8 #[.val (.ref o0), .val (.long q1), .second, .val (.long q2), .second, .unset] [(.int (1 : Int32)), (.int (0 : Int32)), (.long (4 : Int64))]))
  refine own_st (fun _ => XS.iadd X1.here hx rfl (hb hby own_dadd_8) rfl) ?_
  show own_End p e below P (T1.setTop (mkF m 9 #[.val (.ref o0), .val (.long q1), .second, .val (.long q2), .second, .unset] [(.int (1 : Int32)), (.long (4 : Int64))]))
  refine own_st (fun _ => XS.i2l X1.here hx rfl (hb hby own_dadd_9) rfl) ?_
  show own_End p e below P (T1.setTop (mkF m 10 #[.val (.ref o0), .val (.long q1), .second, .val (.long q2), .second, .unset] [(.long ((1 : Int32).toInt64)), (.long (4 : Int64))]))
  refine own_st (fun _ => XS.lmul X1.here hx rfl (hb hby own_dadd_10) rfl) ?_
  show own_End p e below P (T1.setTop (mkF m 11 #[.val (.ref o0), .val (.long q1), .second, .val (.long q2), .second, .unset] [(.long ((4 : Int64) * ((1 : Int32).toInt64)))]))
  refine own_st (fun _ => X1.ldc2Long hx hown (mvT hZ (hw _ (List.mem_of_getElem? (i := 13) rfl))) (g := (mkF m 11 #[.val (.ref o0), .val (.long q1), .second, .val (.long q2), .second, .unset] [(.long ((4 : Int64) * ((1 : Int32).toInt64)))])) rfl (hb hby own_dadd_11) _) ?_
  show own_End p e below P (T1.setTop (mkF m 14 #[.val (.ref o0), .val (.long q1), .second, .val (.long q2), .second, .unset] [(.long (3 : Int64)), (.long ((4 : Int64) * ((1 : Int32).toInt64)))]))
  refine own_st (fun _ => XS.aloadN X1.here hx rfl (hb hby own_dadd_14) rfl rfl) ?_
  show own_End p e below P (T1.setTop (mkF m 15 #[.val (.ref o0), .val (.long q1), .second, .val (.long q2), .second, .unset] [(.ref o0), (.long (3 : Int64)), (.long ((4 : Int64) * ((1 : Int32).toInt64)))]))
  obtain ⟨T2, X2, e2, st2⟩ := getF X1 hx hZ hown (host := "") (Or.inl (hw _ (List.mem_of_getElem? (i := 15) rfl))) Via.refl e1 F_o0_entries (g := (mkF m 15 #[.val (.ref o0), .val (.long q1), .second, .val (.long q2), .second, .unset] [(.ref o0), (.long (3 : Int64)), (.long ((4 : Int64) * ((1 : Int32).toInt64)))])) rfl rfl (hb hby own_dadd_15)
  refine own_st (fun _ => st2 _) ?_
  show own_End p e below P (T2.setTop (mkF m 18 #[.val (.ref o0), .val (.long q1), .second, .val (.long q2), .second, .unset] [(.ref w_o0_entries), (.long (3 : Int64)), (.long ((4 : Int64) * ((1 : Int32).toInt64)))]))
  refine own_alenJ X2 hx hZ e2 A_w_o0_entries (g := (mkF m 18 #[.val (.ref o0), .val (.long q1), .second, .val (.long q2), .second, .unset] [(.ref w_o0_entries), (.long (3 : Int64)), (.long ((4 : Int64) * ((1 : Int32).toInt64)))])) rfl rfl (hb hby own_dadd_18) ?_
  show own_End p e below P (T2.setTop (mkF m 19 #[.val (.ref o0), .val (.long q1), .second, .val (.long q2), .second, .unset] [(.int (Int32.ofNat (List.replicate cp (0 : Int64)).length)), (.long (3 : Int64)), (.long ((4 : Int64) * ((1 : Int32).toInt64)))]))
  refine own_st (fun _ => XS.i2l X2.here hx rfl (hb hby own_dadd_19) rfl) ?_
  show own_End p e below P (T2.setTop (mkF m 20 #[.val (.ref o0), .val (.long q1), .second, .val (.long q2), .second, .unset] [(.long ((Int32.ofNat (List.replicate cp (0 : Int64)).length).toInt64)), (.long (3 : Int64)), (.long ((4 : Int64) * ((1 : Int32).toInt64)))]))
  refine own_st (fun _ => XS.lmul X2.here hx rfl (hb hby own_dadd_20) rfl) ?_
  show own_End p e below P (T2.setTop (mkF m 21 #[.val (.ref o0), .val (.long q1), .second, .val (.long q2), .second, .unset] [(.long ((3 : Int64) * ((Int32.ofNat (List.replicate cp (0 : Int64)).length).toInt64))), (.long ((4 : Int64) * ((1 : Int32).toInt64)))]))
  refine own_st (fun _ => XS.lcmp X2.here hx rfl (hb hby own_dadd_21) rfl) ?_
  show own_End p e below P (T2.setTop (mkF m 22 #[.val (.ref o0), .val (.long q1), .second, .val (.long q2), .second, .unset] [(.int (lcmpW ((4 : Int64) * ((1 : Int32).toInt64)) ((3 : Int64) * ((Int32.ofNat (List.replicate cp (0 : Int64)).length).toInt64))))]))
  have hd3 : ¬ (((3 : Int64) * ((Int32.ofNat (List.replicate cp (0 : Int64)).length).toInt64)) < ((4 : Int64) * ((1 : Int32).toInt64))) := by exact own_ng h16 hc2
  refine own_st (fun _ => XS.ifYes X2.here hx rfl (pc0 := 22) (pc' := 29) rfl (hb hby own_dadd_22) rfl ((if0 _ _).trans (flt (mt own_gt.mp hd3)).2.2.2) (by decide) (by decide)) ?_
  show own_End p e below P (T2.setTop (mkF m 29 #[.val (.ref o0), .val (.long q1), .second, .val (.long q2), .second, .unset] []))
  refine own_st (fun _ => XS.aloadN X2.here hx rfl (hb hby own_dadd_29) rfl rfl) ?_
  show own_End p e below P (T2.setTop (mkF m 30 #[.val (.ref o0), .val (.long q1), .second, .val (.long q2), .second, .unset] [(.ref o0)]))
  refine own_st (fun _ => XS.lloadN X2.here hx rfl (hb hby own_dadd_30) rfl) ?_
  show own_End p e below P (T2.setTop (mkF m 31 #[.val (.ref o0), .val (.long q1), .second, .val (.long q2), .second, .unset] [(.long q1), (.ref o0)]))
  refine own_callP X2 hx hZ (y := (⟨"com/example/defnot/defnot/CuckooStash", "find", "(J)I"⟩ : MethodName)) (z := (⟨"com/example/defnot/defnot/CuckooStash", "bytes", "()J"⟩ : MethodName)) hown (hw _ (List.mem_of_getElem? (i := 37) rfl)) (hw _ (List.mem_of_getElem? (i := 38) rfl)) rfl (hw _ (List.mem_of_getElem? (i := 22) rfl)) (hw _ (List.mem_of_getElem? (i := 39) rfl)) (hw _ (List.mem_of_getElem? (i := 2) rfl)) (hw _ (List.mem_of_getElem? (i := 40) rfl)) (by decide) E_o0 (own_mfind l Z a0 hw [] o0 q1 cp w_o0_entries h0 n0 (Nat.le_trans Z0 K0.1) F_o0_entries A_w_o0_entries hc1 hc2) 0 (by decide) (by decide) e2 (by decide) (by decide) (g := (mkF m 31 #[.val (.ref o0), .val (.long q1), .second, .val (.long q2), .second, .unset] [(.long q1), (.ref o0)])) rfl (by rw [hml']; rfl) (argsL := [(.long q1)]) (rest := []) rfl (lenOf own_pd_J_I_228 rfl) rfl (by show 2 * 0 + _ ≤ _; exact Nat.le_of_eq rfl) (hb hby own_dadd_31) (fun r4 T4 L4 X4 hQ4 => ?_)
  obtain ⟨rfl, Nq4, eq4⟩ := hQ4
  have N4 := Fr.app N0 Nq4
  show own_End p e below P (T4.setTop (mkF m 34 #[.val (.ref o0), .val (.long q1), .second, .val (.long q2), .second, .unset] [(.int (own_ffind q1 cp))]))
  refine own_st (fun _ => XS.istore X4.here hx rfl (hb hby own_dadd_34) rfl (l' := #[.val (.ref o0), .val (.long q1), .second, .val (.long q2), .second, .val (.int (own_ffind q1 cp))]) rfl) ?_
  show own_End p e below P (T4.setTop (mkF m 36 #[.val (.ref o0), .val (.long q1), .second, .val (.long q2), .second, .val (.int (own_ffind q1 cp))] []))
  refine own_st (fun _ => XS.aloadN X4.here hx rfl (hb hby own_dadd_36) rfl rfl) ?_
  show own_End p e below P (T4.setTop (mkF m 37 #[.val (.ref o0), .val (.long q1), .second, .val (.long q2), .second, .val (.int (own_ffind q1 cp))] [(.ref o0)]))
  obtain ⟨T5, X5, e5, st5⟩ := getF X4 hx hZ hown (host := "") (Or.inl (hw _ (List.mem_of_getElem? (i := 15) rfl))) Via.refl eq4 F_o0_entries (g := (mkF m 37 #[.val (.ref o0), .val (.long q1), .second, .val (.long q2), .second, .val (.int (own_ffind q1 cp))] [(.ref o0)])) rfl rfl (hb hby own_dadd_37)
  refine own_st (fun _ => st5 _) ?_
  show own_End p e below P (T5.setTop (mkF m 40 #[.val (.ref o0), .val (.long q1), .second, .val (.long q2), .second, .val (.int (own_ffind q1 cp))] [(.ref w_o0_entries)]))
  refine own_st (fun _ => XS.iload X5.here hx rfl (hb hby own_dadd_40) rfl) ?_
  show own_End p e below P (T5.setTop (mkF m 42 #[.val (.ref o0), .val (.long q1), .second, .val (.long q2), .second, .val (.int (own_ffind q1 cp))] [(.int (own_ffind q1 cp)), (.ref w_o0_entries)]))
  refine own_laload X5 hx hZ e5 A_w_o0_entries (j := (own_ffind q1 cp)) (v := (0 : Int64)) (i := (own_ffind q1 cp).toNatClampNeg) (own_idx _ hc1 hc2).1 (own_rep (own_idx _ hc1 hc2).2) (g := (mkF m 42 #[.val (.ref o0), .val (.long q1), .second, .val (.long q2), .second, .val (.int (own_ffind q1 cp))] [(.int (own_ffind q1 cp)), (.ref w_o0_entries)])) rfl rfl (hb hby own_dadd_42) ?_
  show own_End p e below P (T5.setTop (mkF m 43 #[.val (.ref o0), .val (.long q1), .second, .val (.long q2), .second, .val (.int (own_ffind q1 cp))] [(.long (0 : Int64))]))
  refine own_st (fun _ => XS.lconst X5.here hx rfl (hb hby own_dadd_43)) ?_
  show own_End p e below P (T5.setTop (mkF m 44 #[.val (.ref o0), .val (.long q1), .second, .val (.long q2), .second, .val (.int (own_ffind q1 cp))] [(.long (0 : Int64)), (.long (0 : Int64))]))
  refine own_st (fun _ => XS.lcmp X5.here hx rfl (hb hby own_dadd_44) rfl) ?_
  show own_End p e below P (T5.setTop (mkF m 45 #[.val (.ref o0), .val (.long q1), .second, .val (.long q2), .second, .val (.int (own_ffind q1 cp))] [(.int (lcmpW (0 : Int64) (0 : Int64)))]))
  refine own_st (fun _ => XS.ifNo X5.here hx rfl (hb hby own_dadd_45) rfl ((if0 _ _).trans (teq (own_eq.mpr (by decide : (0 : Int64) = (0 : Int64)))).2)) ?_
  show own_End p e below P (T5.setTop (mkF m 48 #[.val (.ref o0), .val (.long q1), .second, .val (.long q2), .second, .val (.int (own_ffind q1 cp))] []))
  refine own_st (fun _ => XS.aloadN X5.here hx rfl (hb hby own_dadd_48) rfl rfl) ?_
  show own_End p e below P (T5.setTop (mkF m 49 #[.val (.ref o0), .val (.long q1), .second, .val (.long q2), .second, .val (.int (own_ffind q1 cp))] [(.ref o0)]))
  obtain ⟨T6, X6, e6, st6⟩ := getF X5 hx hZ hown (host := "") (Or.inl (hw _ (List.mem_of_getElem? (i := 15) rfl))) Via.refl e5 F_o0_entries (g := (mkF m 49 #[.val (.ref o0), .val (.long q1), .second, .val (.long q2), .second, .val (.int (own_ffind q1 cp))] [(.ref o0)])) rfl rfl (hb hby own_dadd_49)
  refine own_st (fun _ => st6 _) ?_
  show own_End p e below P (T6.setTop (mkF m 52 #[.val (.ref o0), .val (.long q1), .second, .val (.long q2), .second, .val (.int (own_ffind q1 cp))] [(.ref w_o0_entries)]))
  refine own_st (fun _ => XS.iload X6.here hx rfl (hb hby own_dadd_52) rfl) ?_
  show own_End p e below P (T6.setTop (mkF m 54 #[.val (.ref o0), .val (.long q1), .second, .val (.long q2), .second, .val (.int (own_ffind q1 cp))] [(.int (own_ffind q1 cp)), (.ref w_o0_entries)]))
  refine own_st (fun _ => XS.lloadN X6.here hx rfl (hb hby own_dadd_54) rfl) ?_
  show own_End p e below P (T6.setTop (mkF m 55 #[.val (.ref o0), .val (.long q1), .second, .val (.long q2), .second, .val (.int (own_ffind q1 cp))] [(.long q1), (.int (own_ffind q1 cp)), (.ref w_o0_entries)]))
  refine own_lastore X6 hx hZ e6 A_w_o0_entries (j := (own_ffind q1 cp)) (v := q1) (i := (own_ffind q1 cp).toNatClampNeg) (own_idx _ hc1 hc2).1 (by rw [List.length_replicate]; exact (own_idx _ hc1 hc2).2) (g := (mkF m 55 #[.val (.ref o0), .val (.long q1), .second, .val (.long q2), .second, .val (.int (own_ffind q1 cp))] [(.long q1), (.int (own_ffind q1 cp)), (.ref w_o0_entries)])) rfl rfl (hb hby own_dadd_55) (fun T7 h7 X7 e7 W7 B7 => ?_)
  have A7 : own_LA Z h7 w_o0_entries ((List.replicate cp (0 : Int64)).set (own_ffind q1 cp).toNatClampNeg q1) := B7
  have N7 := Fr.snoc X7 N4 low_w_o0_entries
  have K7 := Keep.wr K0 W7 (Or.inl (List.mem_of_getElem? (i := 1) rfl))
  show own_End p e below P (T7.setTop (mkF m 56 #[.val (.ref o0), .val (.long q1), .second, .val (.long q2), .second, .val (.int (own_ffind q1 cp))] []))
  refine own_st (fun _ => XS.aloadN X7.here hx rfl (hb hby own_dadd_56) rfl rfl) ?_
  show own_End p e below P (T7.setTop (mkF m 57 #[.val (.ref o0), .val (.long q1), .second, .val (.long q2), .second, .val (.int (own_ffind q1 cp))] [(.ref o0)]))
  refine own_st (fun _ => XS.dup X7.here hx rfl (hb hby own_dadd_57) rfl rfl) ?_
  show own_End p e below P (T7.setTop (mkF m 58 #[.val (.ref o0), .val (.long q1), .second, .val (.long q2), .second, .val (.int (own_ffind q1 cp))] [(.ref o0), (.ref o0)]))
  have G8 := (F_o0_size.other W7 (Or.inl ne_o0_w_o0_entries))
  obtain ⟨T9, X9, e9, st9⟩ := getF X7 hx hZ hown (host := "") (Or.inl (hw _ (List.mem_of_getElem? (i := 35) rfl))) Via.refl e7 G8 (g := (mkF m 58 #[.val (.ref o0), .val (.long q1), .second, .val (.long q2), .second, .val (.int (own_ffind q1 cp))] [(.ref o0), (.ref o0)])) rfl rfl (hb hby own_dadd_58)
  refine own_st (fun _ => st9 _) ?_
  show own_End p e below P (T9.setTop (mkF m 61 #[.val (.ref o0), .val (.long q1), .second, .val (.long q2), .second, .val (.int (own_ffind q1 cp))] [(.int (0 : Int32)), (.ref o0)]))
  refine own_st (fun _ => XS.iconst X9.here hx rfl (hb hby own_dadd_61)) ?_
  show own_End p e below P (T9.setTop (mkF m 62 #[.val (.ref o0), .val (.long q1), .second, .val (.long q2), .second, .val (.int (own_ffind q1 cp))] [(.int (1 : Int32)), (.int (0 : Int32)), (.ref o0)]))
  refine own_st (fun _ => XS.iadd X9.here hx rfl (hb hby own_dadd_62) rfl) ?_
  show own_End p e below P (T9.setTop (mkF m 63 #[.val (.ref o0), .val (.long q1), .second, .val (.long q2), .second, .val (.int (own_ffind q1 cp))] [(.int (1 : Int32)), (.ref o0)]))
  have G10 := (E_o0.wr W7)
  obtain ⟨T11, h11, X11, e11, W11, st11⟩ := putF X9 hx hZ hown (host := "") (Or.inl (hw _ (List.mem_of_getElem? (i := 35) rfl))) Via.refl e9 G8 G10 (Or.inl (hw _ (List.mem_of_getElem? (i := 36) rfl))) (hw _ (List.mem_of_getElem? (i := 1) rfl)) (ty := .int) (by decide) rfl rfl (g := (mkF m 63 #[.val (.ref o0), .val (.long q1), .second, .val (.long q2), .second, .val (.int (own_ffind q1 cp))] [(.int (1 : Int32)), (.ref o0)])) rfl rfl (hb hby own_dadd_63)
  have N11 := Fr.snoc X11 N7 low_o0
  have K11 := Keep.wr K7 W11 (Or.inl (List.mem_of_getElem? (i := 0) rfl))
  have F11 := G8.same W11
  refine own_st (fun _ => st11 _) ?_
  show own_End p e below P (T11.setTop (mkF m 66 #[.val (.ref o0), .val (.long q1), .second, .val (.long q2), .second, .val (.int (own_ffind q1 cp))] []))
  refine own_st (fun _ => XS.aloadN X11.here hx rfl (hb hby own_dadd_66) rfl rfl) ?_
  show own_End p e below P (T11.setTop (mkF m 67 #[.val (.ref o0), .val (.long q1), .second, .val (.long q2), .second, .val (.int (own_ffind q1 cp))] [(.ref o0)]))
  have G12 := ((F_o0_counts.other W7 (Or.inl ne_o0_w_o0_entries)).other W11 (Or.inr (slot_ne (Or.inl (hw _ (List.mem_of_getElem? (i := 18) rfl))) (Or.inl (hw _ (List.mem_of_getElem? (i := 36) rfl))) (by decide) (t := (.array .long)) (t' := .int) (by decide) (by decide))))
  obtain ⟨T13, X13, e13, st13⟩ := getF X11 hx hZ hown (host := "") (Or.inl (hw _ (List.mem_of_getElem? (i := 17) rfl))) Via.refl e11 G12 (g := (mkF m 67 #[.val (.ref o0), .val (.long q1), .second, .val (.long q2), .second, .val (.int (own_ffind q1 cp))] [(.ref o0)])) rfl rfl (hb hby own_dadd_67)
  refine own_st (fun _ => st13 _) ?_
  show own_End p e below P (T13.setTop (mkF m 70 #[.val (.ref o0), .val (.long q1), .second, .val (.long q2), .second, .val (.int (own_ffind q1 cp))] [(.ref w_o0_counts)]))
  refine own_st (fun _ => XS.iload X13.here hx rfl (hb hby own_dadd_70) rfl) ?_
  show own_End p e below P (T13.setTop (mkF m 72 #[.val (.ref o0), .val (.long q1), .second, .val (.long q2), .second, .val (.int (own_ffind q1 cp))] [(.int (own_ffind q1 cp)), (.ref w_o0_counts)]))
  refine own_st (fun _ => Jvm.Free.XT.dup2 X13.here hx rfl (hb hby own_dadd_72) rfl rfl rfl) ?_
  show own_End p e below P (T13.setTop (mkF m 73 #[.val (.ref o0), .val (.long q1), .second, .val (.long q2), .second, .val (.int (own_ffind q1 cp))] [(.int (own_ffind q1 cp)), (.ref w_o0_counts), (.int (own_ffind q1 cp)), (.ref w_o0_counts)]))
  have G14 := ((A_w_o0_counts.other W7 (Ne.symm ne_w_o0_entries_w_o0_counts)).other W11 (Ne.symm ne_o0_w_o0_counts))
  refine own_laload X13 hx hZ e13 G14 (j := (own_ffind q1 cp)) (v := (0 : Int64)) (i := (own_ffind q1 cp).toNatClampNeg) (own_idx _ hc1 hc2).1 (own_rep (own_idx _ hc1 hc2).2) (g := (mkF m 73 #[.val (.ref o0), .val (.long q1), .second, .val (.long q2), .second, .val (.int (own_ffind q1 cp))] [(.int (own_ffind q1 cp)), (.ref w_o0_counts), (.int (own_ffind q1 cp)), (.ref w_o0_counts)])) rfl rfl (hb hby own_dadd_73) ?_
  show own_End p e below P (T13.setTop (mkF m 74 #[.val (.ref o0), .val (.long q1), .second, .val (.long q2), .second, .val (.int (own_ffind q1 cp))] [(.long (0 : Int64)), (.int (own_ffind q1 cp)), (.ref w_o0_counts)]))
  refine own_st (fun _ => XS.lloadN X13.here hx rfl (hb hby own_dadd_74) rfl) ?_
  show own_End p e below P (T13.setTop (mkF m 75 #[.val (.ref o0), .val (.long q1), .second, .val (.long q2), .second, .val (.int (own_ffind q1 cp))] [(.long q2), (.long (0 : Int64)), (.int (own_ffind q1 cp)), (.ref w_o0_counts)]))
  refine own_st (fun _ => XS.ladd X13.here hx rfl (hb hby own_dadd_75) rfl) ?_
  show own_End p e below P (T13.setTop (mkF m 76 #[.val (.ref o0), .val (.long q1), .second, .val (.long q2), .second, .val (.int (own_ffind q1 cp))] [(.long ((0 : Int64) + q2)), (.int (own_ffind q1 cp)), (.ref w_o0_counts)]))
  refine own_lastore X13 hx hZ e13 G14 (j := (own_ffind q1 cp)) (v := ((0 : Int64) + q2)) (i := (own_ffind q1 cp).toNatClampNeg) (own_idx _ hc1 hc2).1 (by rw [List.length_replicate]; exact (own_idx _ hc1 hc2).2) (g := (mkF m 76 #[.val (.ref o0), .val (.long q1), .second, .val (.long q2), .second, .val (.int (own_ffind q1 cp))] [(.long ((0 : Int64) + q2)), (.int (own_ffind q1 cp)), (.ref w_o0_counts)])) rfl rfl (hb hby own_dadd_76) (fun T15 h15 X15 e15 W15 B15 => ?_)
  have A15 : own_LA Z h15 w_o0_counts ((List.replicate cp (0 : Int64)).set (own_ffind q1 cp).toNatClampNeg ((0 : Int64) + q2)) := B15
  have N15 := Fr.snoc X15 N11 low_w_o0_counts
  have K15 := Keep.wr K11 W15 (Or.inl (List.mem_of_getElem? (i := 2) rfl))
  show own_End p e below P (T15.setTop (mkF m 77 #[.val (.ref o0), .val (.long q1), .second, .val (.long q2), .second, .val (.int (own_ffind q1 cp))] []))
  refine own_st (fun _ => XS.aloadN X15.here hx rfl (hb hby own_dadd_77) rfl rfl) ?_
  show own_End p e below P (T15.setTop (mkF m 78 #[.val (.ref o0), .val (.long q1), .second, .val (.long q2), .second, .val (.int (own_ffind q1 cp))] [(.ref o0)]))
  refine own_st (fun _ => XS.dup X15.here hx rfl (hb hby own_dadd_78) rfl rfl) ?_
  show own_End p e below P (T15.setTop (mkF m 79 #[.val (.ref o0), .val (.long q1), .second, .val (.long q2), .second, .val (.int (own_ffind q1 cp))] [(.ref o0), (.ref o0)]))
  have G16 := (((F_o0_copies.other W7 (Or.inl ne_o0_w_o0_entries)).other W11 (Or.inr (slot_ne (Or.inl (hw _ (List.mem_of_getElem? (i := 48) rfl))) (Or.inl (hw _ (List.mem_of_getElem? (i := 36) rfl))) (by decide) (t := .long) (t' := .int) (by decide) (by decide)))).other W15 (Or.inl ne_o0_w_o0_counts))
  obtain ⟨T17, X17, e17, st17⟩ := getF X15 hx hZ hown (host := "") (Or.inl (hw _ (List.mem_of_getElem? (i := 47) rfl))) Via.refl e15 G16 (g := (mkF m 79 #[.val (.ref o0), .val (.long q1), .second, .val (.long q2), .second, .val (.int (own_ffind q1 cp))] [(.ref o0), (.ref o0)])) rfl rfl (hb hby own_dadd_79)
  refine own_st (fun _ => st17 _) ?_
  show own_End p e below P (T17.setTop (mkF m 82 #[.val (.ref o0), .val (.long q1), .second, .val (.long q2), .second, .val (.int (own_ffind q1 cp))] [(.long (0 : Int64)), (.ref o0)]))
  refine own_st (fun _ => XS.lloadN X17.here hx rfl (hb hby own_dadd_82) rfl) ?_
  show own_End p e below P (T17.setTop (mkF m 83 #[.val (.ref o0), .val (.long q1), .second, .val (.long q2), .second, .val (.int (own_ffind q1 cp))] [(.long q2), (.long (0 : Int64)), (.ref o0)]))
  refine own_st (fun _ => XS.ladd X17.here hx rfl (hb hby own_dadd_83) rfl) ?_
  show own_End p e below P (T17.setTop (mkF m 84 #[.val (.ref o0), .val (.long q1), .second, .val (.long q2), .second, .val (.int (own_ffind q1 cp))] [(.long ((0 : Int64) + q2)), (.ref o0)]))
  have G18 := ((G10.wr W11).wr W15)
  obtain ⟨T19, h19, X19, e19, W19, st19⟩ := putF X17 hx hZ hown (host := "") (Or.inl (hw _ (List.mem_of_getElem? (i := 47) rfl))) Via.refl e17 G16 G18 (Or.inl (hw _ (List.mem_of_getElem? (i := 48) rfl))) (hw _ (List.mem_of_getElem? (i := 1) rfl)) (ty := .long) (by decide) rfl rfl (g := (mkF m 84 #[.val (.ref o0), .val (.long q1), .second, .val (.long q2), .second, .val (.int (own_ffind q1 cp))] [(.long ((0 : Int64) + q2)), (.ref o0)])) rfl rfl (hb hby own_dadd_84)
  have N19 := Fr.snoc X19 N15 low_o0
  have K19 := Keep.wr K15 W19 (Or.inl (List.mem_of_getElem? (i := 0) rfl))
  have F19 := G16.same W19
  refine own_st (fun _ => st19 _) ?_
  show own_End p e below P (T19.setTop (mkF m 87 #[.val (.ref o0), .val (.long q1), .second, .val (.long q2), .second, .val (.int (own_ffind q1 cp))] []))
  have G20 := (G18.wr W19)
  have G21 := ((((F_o0_entries.other W7 (Or.inl ne_o0_w_o0_entries)).other W11 (Or.inr (slot_ne (Or.inl (hw _ (List.mem_of_getElem? (i := 16) rfl))) (Or.inl (hw _ (List.mem_of_getElem? (i := 36) rfl))) (by decide) (t := (.array .long)) (t' := .int) (by decide) (by decide)))).other W15 (Or.inl ne_o0_w_o0_counts)).other W19 (Or.inr (slot_ne (Or.inl (hw _ (List.mem_of_getElem? (i := 16) rfl))) (Or.inl (hw _ (List.mem_of_getElem? (i := 48) rfl))) (by decide) (t := (.array .long)) (t' := .long) (by decide) (by decide))))
  have G22 := ((G12.other W15 (Or.inl ne_o0_w_o0_counts)).other W19 (Or.inr (slot_ne (Or.inl (hw _ (List.mem_of_getElem? (i := 18) rfl))) (Or.inl (hw _ (List.mem_of_getElem? (i := 48) rfl))) (by decide) (t := (.array .long)) (t' := .long) (by decide) (by decide))))
  have G23 := ((F11.other W15 (Or.inl ne_o0_w_o0_counts)).other W19 (Or.inr (slot_ne (Or.inl (hw _ (List.mem_of_getElem? (i := 36) rfl))) (Or.inl (hw _ (List.mem_of_getElem? (i := 48) rfl))) (by decide) (t := .int) (t' := .long) (by decide) (by decide))))
  have G24 := (((A7.other W11 (Ne.symm ne_o0_w_o0_entries)).other W15 ne_w_o0_entries_w_o0_counts).other W19 (Ne.symm ne_o0_w_o0_entries))
  have G25 := (A15.other W19 (Ne.symm ne_o0_w_o0_counts))
  have hfin : ((fun (v : Option Value) (h : Heap) (L : List Loc) => v = none ∧ Fr n0 L ∧ Keep h0 h [o0, w_o0_entries, w_o0_counts] ∧ Exa Z h o0 "com/example/defnot/defnot/CuckooStash" ∧ Fld Z h o0 "com/example/defnot/defnot/CuckooStash" "entries" "[J" (.ref w_o0_entries) ∧ Fld Z h o0 "com/example/defnot/defnot/CuckooStash" "counts" "[J" (.ref w_o0_counts) ∧ Fld Z h o0 "com/example/defnot/defnot/CuckooStash" "size" "I" (.int (1 : Int32)) ∧ Fld Z h o0 "com/example/defnot/defnot/CuckooStash" "copies" "J" (.long ((0 : Int64) + q2)) ∧ own_LA Z h w_o0_entries ((List.replicate cp (0 : Int64)).set (own_ffind q1 cp).toNatClampNeg q1) ∧ own_LA Z h w_o0_counts ((List.replicate cp (0 : Int64)).set (own_ffind q1 cp).toNatClampNeg ((0 : Int64) + q2)))) none h19 _ := ⟨rfl, N19, K19, G20, G21, G22, G23, F19, G24, G25⟩
  refine own_retV X19 hx hlk hP hrt (hb hby own_dadd_87) (by decide) (by decide) ?_
  rw [e19]; exact hfin
theorem own_dgrow_0 : decode prog_8_method_12_code 0 = .ok (.aload_n 0, 1) := by decide +kernel
theorem own_dgrow_1 : decode prog_8_method_12_code 1 = .ok (.getfield 16, 3) := by decide +kernel
theorem own_dgrow_4 : decode prog_8_method_12_code 4 = .ok (.astore_n 1, 1) := by decide +kernel
theorem own_dgrow_5 : decode prog_8_method_12_code 5 = .ok (.aload_n 0, 1) := by decide +kernel
theorem own_dgrow_6 : decode prog_8_method_12_code 6 = .ok (.getfield 20, 3) := by decide +kernel
theorem own_dgrow_9 : decode prog_8_method_12_code 9 = .ok (.astore_n 2, 1) := by decide +kernel
theorem own_dgrow_10 : decode prog_8_method_12_code 10 = .ok (.aload_n 0, 1) := by decide +kernel
theorem own_dgrow_11 : decode prog_8_method_12_code 11 = .ok (.aload_n 0, 1) := by decide +kernel
theorem own_dgrow_12 : decode prog_8_method_12_code 12 = .ok (.getfield 29, 3) := by decide +kernel
theorem own_dgrow_15 : decode prog_8_method_12_code 15 = .ok (.iconst 1, 1) := by decide +kernel
theorem own_dgrow_16 : decode prog_8_method_12_code 16 = .ok (.iadd, 1) := by decide +kernel
theorem own_dgrow_17 : decode prog_8_method_12_code 17 = .ok (.invokestatic 12, 3) := by decide +kernel
theorem own_dgrow_20 : decode prog_8_method_12_code 20 = .ok (.newarray .long, 2) := by decide +kernel
theorem own_dgrow_22 : decode prog_8_method_12_code 22 = .ok (.putfield 16, 3) := by decide +kernel
theorem own_dgrow_25 : decode prog_8_method_12_code 25 = .ok (.aload_n 0, 1) := by decide +kernel
theorem own_dgrow_26 : decode prog_8_method_12_code 26 = .ok (.aload_n 0, 1) := by decide +kernel
theorem own_dgrow_27 : decode prog_8_method_12_code 27 = .ok (.getfield 16, 3) := by decide +kernel
theorem own_dgrow_30 : decode prog_8_method_12_code 30 = .ok (.arraylength, 1) := by decide +kernel
theorem own_dgrow_31 : decode prog_8_method_12_code 31 = .ok (.newarray .long, 2) := by decide +kernel
theorem own_dgrow_33 : decode prog_8_method_12_code 33 = .ok (.putfield 20, 3) := by decide +kernel
theorem own_dgrow_36 : decode prog_8_method_12_code 36 = .ok (.iconst 0, 1) := by decide +kernel
theorem own_dgrow_37 : decode prog_8_method_12_code 37 = .ok (.istore_n 3, 1) := by decide +kernel
theorem own_dgrow_38 : decode prog_8_method_12_code 38 = .ok (.iload_n 3, 1) := by decide +kernel
theorem own_dgrow_39 : decode prog_8_method_12_code 39 = .ok (.aload_n 1, 1) := by decide +kernel
theorem own_dgrow_40 : decode prog_8_method_12_code 40 = .ok (.arraylength, 1) := by decide +kernel
theorem own_dgrow_41 : decode prog_8_method_12_code 41 = .ok (.if_icmp .ge 46, 3) := by decide +kernel
theorem own_dgrow_87 : decode prog_8_method_12_code 87 = .ok (.return_, 1) := by decide +kernel
theorem own_efgrow (m : MethodId) (o0 : Addr) : entryFrame m #[(.ref o0)] 5 = mkF m 0 #[.val (.ref o0), .unset, .unset, .unset, .unset] [] := by first | (simp [entryFrame, mkF, argsToLocals, Value.category]; done) | rfl
theorem own_16 : (own_plc (1 : Int32)).toInt = ((16 : Nat) : Int) := by decide +kernel
set_option maxRecDepth 65536 in
set_option maxHeartbeats 40000000 in
theorem own_mgrow (l : Launch) (Z : State) (a0 : Array Value) (hw : ∀ d ∈ tables_1, d.before a0 Z = true) (ws : List Jvm.Cond) (o0 : Addr) (w_o0_entries : Addr) (w_o0_counts : Addr) (h0 : Heap) (n0 : Nat) (Z0 : n0 ≤ h0.size) (E_o0 : Exa Z h0 o0 "com/example/defnot/defnot/CuckooStash") (F_o0_entries : Fld Z h0 o0 "com/example/defnot/defnot/CuckooStash" "entries" "[J" (.ref w_o0_entries)) (F_o0_counts : Fld Z h0 o0 "com/example/defnot/defnot/CuckooStash" "counts" "[J" (.ref w_o0_counts)) (F_o0_size : Fld Z h0 o0 "com/example/defnot/defnot/CuckooStash" "size" "I" (.int (0 : Int32))) (F_o0_copies : Fld Z h0 o0 "com/example/defnot/defnot/CuckooStash" "copies" "J" (.long (0 : Int64))) (A_w_o0_entries : own_LA Z h0 w_o0_entries ([] : List Int64)) (low_o0 : n0 ≤ o0) (ne_o0_w_o0_entries : o0 ≠ w_o0_entries) :
    own_Met l Z (⟨"com/example/defnot/defnot/CuckooStash", "grow", "()V"⟩ : MethodName) prog_8_method_12_code 5 none ws ({ frames := 2, cells := 2, slots := 32, locals := 29 } : Room) #[(.ref o0)] h0 (fun (v : Option Value) (h : Heap) (L : List Loc) => ∃ (b5 : Addr) (b13 : Addr), v = none ∧ Fr n0 L ∧ Keep h0 h [o0] ∧ h0.size ≤ b5 ∧ n0 ≤ b5 ∧ h0.size ≤ b13 ∧ n0 ≤ b13 ∧ b5 ≠ b13 ∧ Exa Z h o0 "com/example/defnot/defnot/CuckooStash" ∧ Fld Z h o0 "com/example/defnot/defnot/CuckooStash" "entries" "[J" (.ref b5) ∧ Fld Z h o0 "com/example/defnot/defnot/CuckooStash" "counts" "[J" (.ref b13) ∧ Fld Z h o0 "com/example/defnot/defnot/CuckooStash" "size" "I" (.int (0 : Int32)) ∧ Fld Z h o0 "com/example/defnot/defnot/CuckooStash" "copies" "J" (.long (0 : Int64)) ∧ own_LA Z h b5 (List.replicate 16 (0 : Int64)) ∧ own_LA Z h b13 (List.replicate 16 (0 : Int64))) := by
  refine own_enter (plainFor_of_name own_pn_com_example_defnot_defnot_CuckooStash) ?_
  intro p e s m below meth c s₁ P hx hby hml hrt hlk hown hnm hZ X0 e0 hP
  have N0 := Fr.nil n0
  have K0 := Keep.refl h0 [o0]
  have hml' : c.maxLocals = 5 := hml
  refine own_cast (own_efgrow m o0) ?_
  show own_End p e below P (s₁.setTop (mkF m 0 #[.val (.ref o0), .unset, .unset, .unset, .unset] []))
  refine own_st (fun _ => XS.aloadN X0.here hx rfl (hb hby own_dgrow_0) rfl rfl) ?_
  show own_End p e below P (s₁.setTop (mkF m 1 #[.val (.ref o0), .unset, .unset, .unset, .unset] [(.ref o0)]))
  obtain ⟨T1, X1, e1, st1⟩ := getF X0 hx hZ hown (host := "") (Or.inl (hw _ (List.mem_of_getElem? (i := 15) rfl))) Via.refl e0 F_o0_entries (g := (mkF m 1 #[.val (.ref o0), .unset, .unset, .unset, .unset] [(.ref o0)])) rfl rfl (hb hby own_dgrow_1)
  refine own_st (fun _ => st1 _) ?_
  show own_End p e below P (T1.setTop (mkF m 4 #[.val (.ref o0), .unset, .unset, .unset, .unset] [(.ref w_o0_entries)]))
  refine own_st (fun _ => XS.astoreN X1.here hx rfl (hb hby own_dgrow_4) rfl rfl (l' := #[.val (.ref o0), .val (.ref w_o0_entries), .unset, .unset, .unset]) rfl) ?_
  show own_End p e below P (T1.setTop (mkF m 5 #[.val (.ref o0), .val (.ref w_o0_entries), .unset, .unset, .unset] []))
  refine own_st (fun _ => XS.aloadN X1.here hx rfl (hb hby own_dgrow_5) rfl rfl) ?_
  show own_End p e below P (T1.setTop (mkF m 6 #[.val (.ref o0), .val (.ref w_o0_entries), .unset, .unset, .unset] [(.ref o0)]))
  obtain ⟨T2, X2, e2, st2⟩ := getF X1 hx hZ hown (host := "") (Or.inl (hw _ (List.mem_of_getElem? (i := 17) rfl))) Via.refl e1 F_o0_counts (g := (mkF m 6 #[.val (.ref o0), .val (.ref w_o0_entries), .unset, .unset, .unset] [(.ref o0)])) rfl rfl (hb hby own_dgrow_6)
  refine own_st (fun _ => st2 _) ?_
  show own_End p e below P (T2.setTop (mkF m 9 #[.val (.ref o0), .val (.ref w_o0_entries), .unset, .unset, .unset] [(.ref w_o0_counts)]))
  refine own_st (fun _ => XS.astoreN X2.here hx rfl (hb hby own_dgrow_9) rfl rfl (l' := #[.val (.ref o0), .val (.ref w_o0_entries), .val (.ref w_o0_counts), .unset, .unset]) rfl) ?_
  show own_End p e below P (T2.setTop (mkF m 10 #[.val (.ref o0), .val (.ref w_o0_entries), .val (.ref w_o0_counts), .unset, .unset] []))
  refine own_st (fun _ => XS.aloadN X2.here hx rfl (hb hby own_dgrow_10) rfl rfl) ?_
  show own_End p e below P (T2.setTop (mkF m 11 #[.val (.ref o0), .val (.ref w_o0_entries), .val (.ref w_o0_counts), .unset, .unset] [(.ref o0)]))
  refine own_st (fun _ => XS.aloadN X2.here hx rfl (hb hby own_dgrow_11) rfl rfl) ?_
  show own_End p e below P (T2.setTop (mkF m 12 #[.val (.ref o0), .val (.ref w_o0_entries), .val (.ref w_o0_counts), .unset, .unset] [(.ref o0), (.ref o0)]))
  obtain ⟨T3, X3, e3, st3⟩ := getF X2 hx hZ hown (host := "") (Or.inl (hw _ (List.mem_of_getElem? (i := 35) rfl))) Via.refl e2 F_o0_size (g := (mkF m 12 #[.val (.ref o0), .val (.ref w_o0_entries), .val (.ref w_o0_counts), .unset, .unset] [(.ref o0), (.ref o0)])) rfl rfl (hb hby own_dgrow_12)
  refine own_st (fun _ => st3 _) ?_
  show own_End p e below P (T3.setTop (mkF m 15 #[.val (.ref o0), .val (.ref w_o0_entries), .val (.ref w_o0_counts), .unset, .unset] [(.int (0 : Int32)), (.ref o0)]))
  refine own_st (fun _ => XS.iconst X3.here hx rfl (hb hby own_dgrow_15)) ?_
  show own_End p e below P (T3.setTop (mkF m 16 #[.val (.ref o0), .val (.ref w_o0_entries), .val (.ref w_o0_counts), .unset, .unset] [(.int (1 : Int32)), (.int (0 : Int32)), (.ref o0)]))
  refine own_st (fun _ => XS.iadd X3.here hx rfl (hb hby own_dgrow_16) rfl) ?_
  show own_End p e below P (T3.setTop (mkF m 17 #[.val (.ref o0), .val (.ref w_o0_entries), .val (.ref w_o0_counts), .unset, .unset] [(.int (1 : Int32)), (.ref o0)]))
  refine own_callS X3 hx hZ (y := (⟨"com/example/defnot/defnot/CuckooStash", "places", "(I)I"⟩ : MethodName)) hown (hw _ (List.mem_of_getElem? (i := 9) rfl)) (hw _ (List.mem_of_getElem? (i := 10) rfl)) (hw _ (List.mem_of_getElem? (i := 2) rfl)) (hw _ (List.mem_of_getElem? (i := 11) rfl)) (by decide) (own_mplaces l Z a0 hw [] (1 : Int32)  h0 n0 (Nat.le_trans Z0 K0.1) (by decide)) 1 (by decide) (by decide) e3 (by decide) (by decide) (g := (mkF m 17 #[.val (.ref o0), .val (.ref w_o0_entries), .val (.ref w_o0_counts), .unset, .unset] [(.int (1 : Int32)), (.ref o0)])) rfl (by rw [hml']; rfl) (argsL := [(.int (1 : Int32))]) (rest := [(.ref o0)]) rfl (lenOf own_pd_I_I_227 rfl) rfl (by show 2 * 0 + _ ≤ _; exact Nat.le_of_eq rfl) (hb hby own_dgrow_17) (fun r4 T4 L4 X4 hQ4 => ?_)
  obtain ⟨rfl, Nq4, eq4⟩ := hQ4
  have N4 := Fr.app N0 Nq4
  show own_End p e below P (T4.setTop (mkF m 20 #[.val (.ref o0), .val (.ref w_o0_entries), .val (.ref w_o0_counts), .unset, .unset] [(.int (own_plc (1 : Int32))), (.ref o0)]))
  refine own_newJ X4 hx hZ (hw _ (List.mem_of_getElem? (i := 14) rfl)) eq4 (j := (own_plc (1 : Int32))) (n := 16) own_16 16 (by decide) (by decide) (by decide) (by decide) (g := (mkF m 20 #[.val (.ref o0), .val (.ref w_o0_entries), .val (.ref w_o0_counts), .unset, .unset] [(.int (own_plc (1 : Int32))), (.ref o0)])) rfl rfl (hb hby own_dgrow_20) (fun T5 h5 X5 e5 E5 B5 => ?_)
  obtain ⟨b5, g5⟩ : ∃ z, z = h0.size := ⟨_, rfl⟩
  rw [← g5] at B5 ⊢
  have ne6 : o0 ≠ b5 := Nat.ne_of_lt (Nat.lt_of_lt_of_le E_o0.lt (Nat.le_of_eq g5.symm))
  have ne7 : w_o0_entries ≠ b5 := Nat.ne_of_lt (Nat.lt_of_lt_of_le A_w_o0_entries.lt (Nat.le_of_eq g5.symm))
  have low_b5 : n0 ≤ b5 := Nat.le_trans (Nat.le_trans Z0 K0.1) (Nat.le_of_eq g5.symm)
  have sz_b5 : h0.size ≤ b5 := Nat.le_trans K0.1 (Nat.le_of_eq g5.symm)
  have K5 := Keep.ext K0 E5
  have A5 : own_LA Z h5 b5 (List.replicate 16 (0 : Int64)) := B5
  show own_End p e below P (T5.setTop (mkF m 22 #[.val (.ref o0), .val (.ref w_o0_entries), .val (.ref w_o0_counts), .unset, .unset] [(.ref b5), (.ref o0)]))
  have G8 := (F_o0_entries.ext E5)
  have G9 := (E_o0.ext E5)
  obtain ⟨T10, h10, X10, e10, W10, st10⟩ := putF X5 hx hZ hown (host := "") (Or.inl (hw _ (List.mem_of_getElem? (i := 15) rfl))) Via.refl e5 G8 G9 (Or.inl (hw _ (List.mem_of_getElem? (i := 16) rfl))) (hw _ (List.mem_of_getElem? (i := 1) rfl)) (ty := (.array .long)) (by decide) rfl rfl (g := (mkF m 22 #[.val (.ref o0), .val (.ref w_o0_entries), .val (.ref w_o0_counts), .unset, .unset] [(.ref b5), (.ref o0)])) rfl rfl (hb hby own_dgrow_22)
  have N10 := Fr.snoc X10 N4 low_o0
  have K10 := Keep.wr K5 W10 (Or.inl (List.mem_of_getElem? (i := 0) rfl))
  have F10 := G8.same W10
  refine own_st (fun _ => st10 _) ?_
  show own_End p e below P (T10.setTop (mkF m 25 #[.val (.ref o0), .val (.ref w_o0_entries), .val (.ref w_o0_counts), .unset, .unset] []))
  refine own_st (fun _ => XS.aloadN X10.here hx rfl (hb hby own_dgrow_25) rfl rfl) ?_
  show own_End p e below P (T10.setTop (mkF m 26 #[.val (.ref o0), .val (.ref w_o0_entries), .val (.ref w_o0_counts), .unset, .unset] [(.ref o0)]))
  refine own_st (fun _ => XS.aloadN X10.here hx rfl (hb hby own_dgrow_26) rfl rfl) ?_
  show own_End p e below P (T10.setTop (mkF m 27 #[.val (.ref o0), .val (.ref w_o0_entries), .val (.ref w_o0_counts), .unset, .unset] [(.ref o0), (.ref o0)]))
  obtain ⟨T11, X11, e11, st11⟩ := getF X10 hx hZ hown (host := "") (Or.inl (hw _ (List.mem_of_getElem? (i := 15) rfl))) Via.refl e10 F10 (g := (mkF m 27 #[.val (.ref o0), .val (.ref w_o0_entries), .val (.ref w_o0_counts), .unset, .unset] [(.ref o0), (.ref o0)])) rfl rfl (hb hby own_dgrow_27)
  refine own_st (fun _ => st11 _) ?_
  show own_End p e below P (T11.setTop (mkF m 30 #[.val (.ref o0), .val (.ref w_o0_entries), .val (.ref w_o0_counts), .unset, .unset] [(.ref b5), (.ref o0)]))
  have G12 := (A5.other W10 (Ne.symm ne6))
  refine own_alenJ X11 hx hZ e11 G12 (g := (mkF m 30 #[.val (.ref o0), .val (.ref w_o0_entries), .val (.ref w_o0_counts), .unset, .unset] [(.ref b5), (.ref o0)])) rfl rfl (hb hby own_dgrow_30) ?_
  show own_End p e below P (T11.setTop (mkF m 31 #[.val (.ref o0), .val (.ref w_o0_entries), .val (.ref w_o0_counts), .unset, .unset] [(.int (Int32.ofNat (List.replicate 16 (0 : Int64)).length)), (.ref o0)]))
  refine own_newJ X11 hx hZ (hw _ (List.mem_of_getElem? (i := 14) rfl)) e11 (j := (Int32.ofNat (List.replicate 16 (0 : Int64)).length)) (n := 16) (by rw [List.length_replicate]; decide) 16 (by decide) (by decide) (by decide) (by decide) (g := (mkF m 31 #[.val (.ref o0), .val (.ref w_o0_entries), .val (.ref w_o0_counts), .unset, .unset] [(.int (Int32.ofNat (List.replicate 16 (0 : Int64)).length)), (.ref o0)])) rfl rfl (hb hby own_dgrow_31) (fun T13 h13 X13 e13 E13 B13 => ?_)
  obtain ⟨b13, g13⟩ : ∃ z, z = h10.size := ⟨_, rfl⟩
  rw [← g13] at B13 ⊢
  have ne14 : b5 ≠ b13 := Nat.ne_of_lt (Nat.lt_of_lt_of_le G12.lt (Nat.le_of_eq g13.symm))
  have G16 := (G9.wr W10)
  have ne15 : o0 ≠ b13 := Nat.ne_of_lt (Nat.lt_of_lt_of_le G16.lt (Nat.le_of_eq g13.symm))
  have G18 := ((A_w_o0_entries.ext E5).other W10 (Ne.symm ne_o0_w_o0_entries))
  have ne17 : w_o0_entries ≠ b13 := Nat.ne_of_lt (Nat.lt_of_lt_of_le G18.lt (Nat.le_of_eq g13.symm))
  have low_b13 : n0 ≤ b13 := Nat.le_trans (Nat.le_trans Z0 K10.1) (Nat.le_of_eq g13.symm)
  have sz_b13 : h0.size ≤ b13 := Nat.le_trans K10.1 (Nat.le_of_eq g13.symm)
  have K13 := Keep.ext K10 E13
  have A13 : own_LA Z h13 b13 (List.replicate 16 (0 : Int64)) := B13
  show own_End p e below P (T13.setTop (mkF m 33 #[.val (.ref o0), .val (.ref w_o0_entries), .val (.ref w_o0_counts), .unset, .unset] [(.ref b13), (.ref o0)]))
  have G19 := (((F_o0_counts.ext E5).other W10 (Or.inr (slot_ne (Or.inl (hw _ (List.mem_of_getElem? (i := 18) rfl))) (Or.inl (hw _ (List.mem_of_getElem? (i := 16) rfl))) (by decide) (t := (.array .long)) (t' := (.array .long)) (by decide) (by decide)))).ext E13)
  have G20 := (G16.ext E13)
  obtain ⟨T21, h21, X21, e21, W21, st21⟩ := putF X13 hx hZ hown (host := "") (Or.inl (hw _ (List.mem_of_getElem? (i := 17) rfl))) Via.refl e13 G19 G20 (Or.inl (hw _ (List.mem_of_getElem? (i := 18) rfl))) (hw _ (List.mem_of_getElem? (i := 1) rfl)) (ty := (.array .long)) (by decide) rfl rfl (g := (mkF m 33 #[.val (.ref o0), .val (.ref w_o0_entries), .val (.ref w_o0_counts), .unset, .unset] [(.ref b13), (.ref o0)])) rfl rfl (hb hby own_dgrow_33)
  have N21 := Fr.snoc X21 N10 low_o0
  have K21 := Keep.wr K13 W21 (Or.inl (List.mem_of_getElem? (i := 0) rfl))
  have F21 := G19.same W21
  refine own_st (fun _ => st21 _) ?_
  show own_End p e below P (T21.setTop (mkF m 36 #[.val (.ref o0), .val (.ref w_o0_entries), .val (.ref w_o0_counts), .unset, .unset] []))
  refine own_st (fun _ => XS.iconst X21.here hx rfl (hb hby own_dgrow_36)) ?_
  show own_End p e below P (T21.setTop (mkF m 37 #[.val (.ref o0), .val (.ref w_o0_entries), .val (.ref w_o0_counts), .unset, .unset] [(.int (0 : Int32))]))
  refine own_st (fun _ => XS.istoreN X21.here hx rfl (hb hby own_dgrow_37) rfl (l' := #[.val (.ref o0), .val (.ref w_o0_entries), .val (.ref w_o0_counts), .val (.int (0 : Int32)), .unset]) rfl) ?_
  show own_End p e below P (T21.setTop (mkF m 38 #[.val (.ref o0), .val (.ref w_o0_entries), .val (.ref w_o0_counts), .val (.int (0 : Int32)), .unset] []))
  refine own_st (fun _ => XS.iloadN X21.here hx rfl (hb hby own_dgrow_38) rfl) ?_
  show own_End p e below P (T21.setTop (mkF m 39 #[.val (.ref o0), .val (.ref w_o0_entries), .val (.ref w_o0_counts), .val (.int (0 : Int32)), .unset] [(.int (0 : Int32))]))
  refine own_st (fun _ => XS.aloadN X21.here hx rfl (hb hby own_dgrow_39) rfl rfl) ?_
  show own_End p e below P (T21.setTop (mkF m 40 #[.val (.ref o0), .val (.ref w_o0_entries), .val (.ref w_o0_counts), .val (.int (0 : Int32)), .unset] [(.ref w_o0_entries), (.int (0 : Int32))]))
  have G22 := ((G18.ext E13).other W21 (Ne.symm ne_o0_w_o0_entries))
  refine own_alenJ X21 hx hZ e21 G22 (g := (mkF m 40 #[.val (.ref o0), .val (.ref w_o0_entries), .val (.ref w_o0_counts), .val (.int (0 : Int32)), .unset] [(.ref w_o0_entries), (.int (0 : Int32))])) rfl rfl (hb hby own_dgrow_40) ?_
  show own_End p e below P (T21.setTop (mkF m 41 #[.val (.ref o0), .val (.ref w_o0_entries), .val (.ref w_o0_counts), .val (.int (0 : Int32)), .unset] [(.int (0 : Int32)), (.int (0 : Int32))]))
  refine own_st (fun _ => XS.icmpYes X21.here hx rfl (pc0 := 41) (pc' := 87) rfl (hb hby own_dgrow_41) rfl (flt (by decide : ¬ ((0 : Int32) < (0 : Int32)))).2.1 (by decide) (by decide)) ?_
  show own_End p e below P (T21.setTop (mkF m 87 #[.val (.ref o0), .val (.ref w_o0_entries), .val (.ref w_o0_counts), .val (.int (0 : Int32)), .unset] []))
  have G23 := (G20.wr W21)
  have G24 := ((F10.ext E13).other W21 (Or.inr (slot_ne (Or.inl (hw _ (List.mem_of_getElem? (i := 16) rfl))) (Or.inl (hw _ (List.mem_of_getElem? (i := 18) rfl))) (by decide) (t := (.array .long)) (t' := (.array .long)) (by decide) (by decide))))
  have G25 := ((((F_o0_size.ext E5).other W10 (Or.inr (slot_ne (Or.inl (hw _ (List.mem_of_getElem? (i := 36) rfl))) (Or.inl (hw _ (List.mem_of_getElem? (i := 16) rfl))) (by decide) (t := .int) (t' := (.array .long)) (by decide) (by decide)))).ext E13).other W21 (Or.inr (slot_ne (Or.inl (hw _ (List.mem_of_getElem? (i := 36) rfl))) (Or.inl (hw _ (List.mem_of_getElem? (i := 18) rfl))) (by decide) (t := .int) (t' := (.array .long)) (by decide) (by decide))))
  have G26 := ((((F_o0_copies.ext E5).other W10 (Or.inr (slot_ne (Or.inl (hw _ (List.mem_of_getElem? (i := 48) rfl))) (Or.inl (hw _ (List.mem_of_getElem? (i := 16) rfl))) (by decide) (t := .long) (t' := (.array .long)) (by decide) (by decide)))).ext E13).other W21 (Or.inr (slot_ne (Or.inl (hw _ (List.mem_of_getElem? (i := 48) rfl))) (Or.inl (hw _ (List.mem_of_getElem? (i := 18) rfl))) (by decide) (t := .long) (t' := (.array .long)) (by decide) (by decide))))
  have G27 := ((G12.ext E13).other W21 (Ne.symm ne6))
  have G28 := (A13.other W21 (Ne.symm ne15))
  have hfin : ((fun (v : Option Value) (h : Heap) (L : List Loc) => ∃ (b5 : Addr) (b13 : Addr), v = none ∧ Fr n0 L ∧ Keep h0 h [o0] ∧ h0.size ≤ b5 ∧ n0 ≤ b5 ∧ h0.size ≤ b13 ∧ n0 ≤ b13 ∧ b5 ≠ b13 ∧ Exa Z h o0 "com/example/defnot/defnot/CuckooStash" ∧ Fld Z h o0 "com/example/defnot/defnot/CuckooStash" "entries" "[J" (.ref b5) ∧ Fld Z h o0 "com/example/defnot/defnot/CuckooStash" "counts" "[J" (.ref b13) ∧ Fld Z h o0 "com/example/defnot/defnot/CuckooStash" "size" "I" (.int (0 : Int32)) ∧ Fld Z h o0 "com/example/defnot/defnot/CuckooStash" "copies" "J" (.long (0 : Int64)) ∧ own_LA Z h b5 (List.replicate 16 (0 : Int64)) ∧ own_LA Z h b13 (List.replicate 16 (0 : Int64)))) none h21 _ := ⟨b5, b13, rfl, N21, K21, sz_b5, low_b5, sz_b13, low_b13, ne14, G23, G24, F21, G25, G26, G27, G28⟩
  refine own_retV X21 hx hlk hP hrt (hb hby own_dgrow_87) (by decide) (by decide) ?_
  rw [e21]; exact hfin
theorem own_daddg_0 : decode prog_8_method_7_code 0 = .ok (.ldc2_w 37, 3) := by decide +kernel
theorem own_daddg_3 : decode prog_8_method_7_code 3 = .ok (.aload_n 0, 1) := by decide +kernel
theorem own_daddg_4 : decode prog_8_method_7_code 4 = .ok (.getfield 29, 3) := by decide +kernel
theorem own_daddg_7 : decode prog_8_method_7_code 7 = .ok (.iconst 1, 1) := by decide +kernel
theorem own_daddg_8 : decode prog_8_method_7_code 8 = .ok (.iadd, 1) := by decide +kernel
theorem own_daddg_9 : decode prog_8_method_7_code 9 = .ok (.i2l, 1) := by decide +kernel
theorem own_daddg_10 : decode prog_8_method_7_code 10 = .ok (.lmul, 1) := by decide +kernel
theorem own_daddg_11 : decode prog_8_method_7_code 11 = .ok (.ldc2_w 39, 3) := by decide +kernel
theorem own_daddg_14 : decode prog_8_method_7_code 14 = .ok (.aload_n 0, 1) := by decide +kernel
theorem own_daddg_15 : decode prog_8_method_7_code 15 = .ok (.getfield 16, 3) := by decide +kernel
theorem own_daddg_18 : decode prog_8_method_7_code 18 = .ok (.arraylength, 1) := by decide +kernel
theorem own_daddg_19 : decode prog_8_method_7_code 19 = .ok (.i2l, 1) := by decide +kernel
theorem own_daddg_20 : decode prog_8_method_7_code 20 = .ok (.lmul, 1) := by decide +kernel
theorem own_daddg_21 : decode prog_8_method_7_code 21 = .ok (.lcmp, 1) := by decide +kernel
theorem own_daddg_22 : decode prog_8_method_7_code 22 = .ok (.ifCond .le 7, 3) := by decide +kernel
theorem own_daddg_25 : decode prog_8_method_7_code 25 = .ok (.aload_n 0, 1) := by decide +kernel
theorem own_daddg_26 : decode prog_8_method_7_code 26 = .ok (.invokevirtual 41, 3) := by decide +kernel
theorem own_pd_V_167 : parseMethodDescriptor "()V" = some ⟨[], none⟩ := by decide +kernel
theorem own_daddg_29 : decode prog_8_method_7_code 29 = .ok (.aload_n 0, 1) := by decide +kernel
theorem own_daddg_30 : decode prog_8_method_7_code 30 = .ok (.lload_n 1, 1) := by decide +kernel
theorem own_daddg_31 : decode prog_8_method_7_code 31 = .ok (.invokevirtual 44, 3) := by decide +kernel
theorem own_daddg_34 : decode prog_8_method_7_code 34 = .ok (.istore 5, 2) := by decide +kernel
theorem own_daddg_36 : decode prog_8_method_7_code 36 = .ok (.aload_n 0, 1) := by decide +kernel
theorem own_daddg_37 : decode prog_8_method_7_code 37 = .ok (.getfield 16, 3) := by decide +kernel
theorem own_daddg_40 : decode prog_8_method_7_code 40 = .ok (.iload 5, 2) := by decide +kernel
theorem own_daddg_42 : decode prog_8_method_7_code 42 = .ok (.laload, 1) := by decide +kernel
theorem own_daddg_43 : decode prog_8_method_7_code 43 = .ok (.lconst 0, 1) := by decide +kernel
theorem own_daddg_44 : decode prog_8_method_7_code 44 = .ok (.lcmp, 1) := by decide +kernel
theorem own_daddg_45 : decode prog_8_method_7_code 45 = .ok (.ifCond .ne 21, 3) := by decide +kernel
theorem own_daddg_48 : decode prog_8_method_7_code 48 = .ok (.aload_n 0, 1) := by decide +kernel
theorem own_daddg_49 : decode prog_8_method_7_code 49 = .ok (.getfield 16, 3) := by decide +kernel
theorem own_daddg_52 : decode prog_8_method_7_code 52 = .ok (.iload 5, 2) := by decide +kernel
theorem own_daddg_54 : decode prog_8_method_7_code 54 = .ok (.lload_n 1, 1) := by decide +kernel
theorem own_daddg_55 : decode prog_8_method_7_code 55 = .ok (.lastore, 1) := by decide +kernel
theorem own_daddg_56 : decode prog_8_method_7_code 56 = .ok (.aload_n 0, 1) := by decide +kernel
theorem own_daddg_57 : decode prog_8_method_7_code 57 = .ok (.dup, 1) := by decide +kernel
theorem own_daddg_58 : decode prog_8_method_7_code 58 = .ok (.getfield 29, 3) := by decide +kernel
theorem own_daddg_61 : decode prog_8_method_7_code 61 = .ok (.iconst 1, 1) := by decide +kernel
theorem own_daddg_62 : decode prog_8_method_7_code 62 = .ok (.iadd, 1) := by decide +kernel
theorem own_daddg_63 : decode prog_8_method_7_code 63 = .ok (.putfield 29, 3) := by decide +kernel
theorem own_daddg_66 : decode prog_8_method_7_code 66 = .ok (.aload_n 0, 1) := by decide +kernel
theorem own_daddg_67 : decode prog_8_method_7_code 67 = .ok (.getfield 20, 3) := by decide +kernel
theorem own_daddg_70 : decode prog_8_method_7_code 70 = .ok (.iload 5, 2) := by decide +kernel
theorem own_daddg_72 : decode prog_8_method_7_code 72 = .ok (.dup2, 1) := by decide +kernel
theorem own_daddg_73 : decode prog_8_method_7_code 73 = .ok (.laload, 1) := by decide +kernel
theorem own_daddg_74 : decode prog_8_method_7_code 74 = .ok (.lload_n 3, 1) := by decide +kernel
theorem own_daddg_75 : decode prog_8_method_7_code 75 = .ok (.ladd, 1) := by decide +kernel
theorem own_daddg_76 : decode prog_8_method_7_code 76 = .ok (.lastore, 1) := by decide +kernel
theorem own_daddg_77 : decode prog_8_method_7_code 77 = .ok (.aload_n 0, 1) := by decide +kernel
theorem own_daddg_78 : decode prog_8_method_7_code 78 = .ok (.dup, 1) := by decide +kernel
theorem own_daddg_79 : decode prog_8_method_7_code 79 = .ok (.getfield 33, 3) := by decide +kernel
theorem own_daddg_82 : decode prog_8_method_7_code 82 = .ok (.lload_n 3, 1) := by decide +kernel
theorem own_daddg_83 : decode prog_8_method_7_code 83 = .ok (.ladd, 1) := by decide +kernel
theorem own_daddg_84 : decode prog_8_method_7_code 84 = .ok (.putfield 33, 3) := by decide +kernel
theorem own_daddg_87 : decode prog_8_method_7_code 87 = .ok (.return_, 1) := by decide +kernel
theorem own_efaddg (m : MethodId) (o0 : Addr) (q1 : Int64) (q2 : Int64) : entryFrame m #[(.ref o0), (.long q1), (.long q2)] 6 = mkF m 0 #[.val (.ref o0), .val (.long q1), .second, .val (.long q2), .second, .unset] [] := by first | (simp [entryFrame, mkF, argsToLocals, Value.category]; done) | rfl
set_option maxRecDepth 65536 in
set_option maxHeartbeats 40000000 in
theorem own_maddg (l : Launch) (Z : State) (a0 : Array Value) (hw : ∀ d ∈ tables_1, d.before a0 Z = true) (ws : List Jvm.Cond) (o0 : Addr) (q1 : Int64) (q2 : Int64) (w_o0_entries : Addr) (w_o0_counts : Addr) (h0 : Heap) (n0 : Nat) (Z0 : n0 ≤ h0.size) (E_o0 : Exa Z h0 o0 "com/example/defnot/defnot/CuckooStash") (F_o0_entries : Fld Z h0 o0 "com/example/defnot/defnot/CuckooStash" "entries" "[J" (.ref w_o0_entries)) (F_o0_counts : Fld Z h0 o0 "com/example/defnot/defnot/CuckooStash" "counts" "[J" (.ref w_o0_counts)) (F_o0_size : Fld Z h0 o0 "com/example/defnot/defnot/CuckooStash" "size" "I" (.int (0 : Int32))) (F_o0_copies : Fld Z h0 o0 "com/example/defnot/defnot/CuckooStash" "copies" "J" (.long (0 : Int64))) (A_w_o0_entries : own_LA Z h0 w_o0_entries ([] : List Int64)) (A_w_o0_counts : own_LA Z h0 w_o0_counts ([] : List Int64)) (low_o0 : n0 ≤ o0) (low_w_o0_entries : n0 ≤ w_o0_entries) (low_w_o0_counts : n0 ≤ w_o0_counts) (ne_o0_w_o0_entries : o0 ≠ w_o0_entries) (ne_o0_w_o0_counts : o0 ≠ w_o0_counts) (ne_w_o0_entries_w_o0_counts : w_o0_entries ≠ w_o0_counts) :
    own_Met l Z (⟨"com/example/defnot/defnot/CuckooStash", "add", "(JJ)V"⟩ : MethodName) prog_8_method_7_code 6 none ws ({ frames := 3, cells := 2, slots := 32, locals := 45 } : Room) #[(.ref o0), (.long q1), (.long q2)] h0 (fun (v : Option Value) (h : Heap) (L : List Loc) => ∃ (b5_4 : Addr) (b13_4 : Addr), v = none ∧ Fr n0 L ∧ Keep h0 h [o0, w_o0_entries, w_o0_counts] ∧ h0.size ≤ b5_4 ∧ n0 ≤ b5_4 ∧ h0.size ≤ b13_4 ∧ n0 ≤ b13_4 ∧ b5_4 ≠ b13_4 ∧ Exa Z h o0 "com/example/defnot/defnot/CuckooStash" ∧ Fld Z h o0 "com/example/defnot/defnot/CuckooStash" "entries" "[J" (.ref b5_4) ∧ Fld Z h o0 "com/example/defnot/defnot/CuckooStash" "counts" "[J" (.ref b13_4) ∧ Fld Z h o0 "com/example/defnot/defnot/CuckooStash" "size" "I" (.int (1 : Int32)) ∧ Fld Z h o0 "com/example/defnot/defnot/CuckooStash" "copies" "J" (.long ((0 : Int64) + q2)) ∧ own_LA Z h w_o0_entries ([] : List Int64) ∧ own_LA Z h w_o0_counts ([] : List Int64) ∧ own_LA Z h b5_4 ((List.replicate 16 (0 : Int64)).set (own_ffind q1 16).toNatClampNeg q1) ∧ own_LA Z h b13_4 ((List.replicate 16 (0 : Int64)).set (own_ffind q1 16).toNatClampNeg ((0 : Int64) + q2))) := by
  refine own_enter (plainFor_of_name own_pn_com_example_defnot_defnot_CuckooStash) ?_
  intro p e s m below meth c s₁ P hx hby hml hrt hlk hown hnm hZ X0 e0 hP
  have N0 := Fr.nil n0
  have K0 := Keep.refl h0 [o0, w_o0_entries, w_o0_counts]
  have hml' : c.maxLocals = 6 := hml
  refine own_cast (own_efaddg m o0 q1 q2) ?_
  show own_End p e below P (s₁.setTop (mkF m 0 #[.val (.ref o0), .val (.long q1), .second, .val (.long q2), .second, .unset] []))
  refine own_st (fun _ => X0.ldc2Long hx hown (mvT hZ (hw _ (List.mem_of_getElem? (i := 12) rfl))) (g := (mkF m 0 #[.val (.ref o0), .val (.long q1), .second, .val (.long q2), .second, .unset] [])) rfl (hb hby own_daddg_0) _) ?_
  show own_End p e below P (s₁.setTop (mkF m 3 #[.val (.ref o0), .val (.long q1), .second, .val (.long q2), .second, .unset] [(.long (4 : Int64))]))
  refine own_st (fun _ => XS.aloadN X0.here hx rfl (hb hby own_daddg_3) rfl rfl) ?_
  show own_End p e below P (s₁.setTop (mkF m 4 #[.val (.ref o0), .val (.long q1), .second, .val (.long q2), .second, .unset] [(.ref o0), (.long (4 : Int64))]))
  obtain ⟨T1, X1, e1, st1⟩ := getF X0 hx hZ hown (host := "") (Or.inl (hw _ (List.mem_of_getElem? (i := 35) rfl))) Via.refl e0 F_o0_size (g := (mkF m 4 #[.val (.ref o0), .val (.long q1), .second, .val (.long q2), .second, .unset] [(.ref o0), (.long (4 : Int64))])) rfl rfl (hb hby own_daddg_4)
  refine own_st (fun _ => st1 _) ?_
  show own_End p e below P (T1.setTop (mkF m 7 #[.val (.ref o0), .val (.long q1), .second, .val (.long q2), .second, .unset] [(.int (0 : Int32)), (.long (4 : Int64))]))
  refine own_st (fun _ => XS.iconst X1.here hx rfl (hb hby own_daddg_7)) ?_
  show own_End p e below P (T1.setTop (mkF m 8 #[.val (.ref o0), .val (.long q1), .second, .val (.long q2), .second, .unset] [(.int (1 : Int32)), (.int (0 : Int32)), (.long (4 : Int64))]))
  refine own_st (fun _ => XS.iadd X1.here hx rfl (hb hby own_daddg_8) rfl) ?_
  show own_End p e below P (T1.setTop (mkF m 9 #[.val (.ref o0), .val (.long q1), .second, .val (.long q2), .second, .unset] [(.int (1 : Int32)), (.long (4 : Int64))]))
  refine own_st (fun _ => XS.i2l X1.here hx rfl (hb hby own_daddg_9) rfl) ?_
  show own_End p e below P (T1.setTop (mkF m 10 #[.val (.ref o0), .val (.long q1), .second, .val (.long q2), .second, .unset] [(.long ((1 : Int32).toInt64)), (.long (4 : Int64))]))
  refine own_st (fun _ => XS.lmul X1.here hx rfl (hb hby own_daddg_10) rfl) ?_
  show own_End p e below P (T1.setTop (mkF m 11 #[.val (.ref o0), .val (.long q1), .second, .val (.long q2), .second, .unset] [(.long ((4 : Int64) * ((1 : Int32).toInt64)))]))
  refine own_st (fun _ => X1.ldc2Long hx hown (mvT hZ (hw _ (List.mem_of_getElem? (i := 13) rfl))) (g := (mkF m 11 #[.val (.ref o0), .val (.long q1), .second, .val (.long q2), .second, .unset] [(.long ((4 : Int64) * ((1 : Int32).toInt64)))])) rfl (hb hby own_daddg_11) _) ?_
  show own_End p e below P (T1.setTop (mkF m 14 #[.val (.ref o0), .val (.long q1), .second, .val (.long q2), .second, .unset] [(.long (3 : Int64)), (.long ((4 : Int64) * ((1 : Int32).toInt64)))]))
  refine own_st (fun _ => XS.aloadN X1.here hx rfl (hb hby own_daddg_14) rfl rfl) ?_
  show own_End p e below P (T1.setTop (mkF m 15 #[.val (.ref o0), .val (.long q1), .second, .val (.long q2), .second, .unset] [(.ref o0), (.long (3 : Int64)), (.long ((4 : Int64) * ((1 : Int32).toInt64)))]))
  obtain ⟨T2, X2, e2, st2⟩ := getF X1 hx hZ hown (host := "") (Or.inl (hw _ (List.mem_of_getElem? (i := 15) rfl))) Via.refl e1 F_o0_entries (g := (mkF m 15 #[.val (.ref o0), .val (.long q1), .second, .val (.long q2), .second, .unset] [(.ref o0), (.long (3 : Int64)), (.long ((4 : Int64) * ((1 : Int32).toInt64)))])) rfl rfl (hb hby own_daddg_15)
  refine own_st (fun _ => st2 _) ?_
  show own_End p e below P (T2.setTop (mkF m 18 #[.val (.ref o0), .val (.long q1), .second, .val (.long q2), .second, .unset] [(.ref w_o0_entries), (.long (3 : Int64)), (.long ((4 : Int64) * ((1 : Int32).toInt64)))]))
  refine own_alenJ X2 hx hZ e2 A_w_o0_entries (g := (mkF m 18 #[.val (.ref o0), .val (.long q1), .second, .val (.long q2), .second, .unset] [(.ref w_o0_entries), (.long (3 : Int64)), (.long ((4 : Int64) * ((1 : Int32).toInt64)))])) rfl rfl (hb hby own_daddg_18) ?_
  show own_End p e below P (T2.setTop (mkF m 19 #[.val (.ref o0), .val (.long q1), .second, .val (.long q2), .second, .unset] [(.int (0 : Int32)), (.long (3 : Int64)), (.long ((4 : Int64) * ((1 : Int32).toInt64)))]))
  refine own_st (fun _ => XS.i2l X2.here hx rfl (hb hby own_daddg_19) rfl) ?_
  show own_End p e below P (T2.setTop (mkF m 20 #[.val (.ref o0), .val (.long q1), .second, .val (.long q2), .second, .unset] [(.long ((0 : Int32).toInt64)), (.long (3 : Int64)), (.long ((4 : Int64) * ((1 : Int32).toInt64)))]))
  refine own_st (fun _ => XS.lmul X2.here hx rfl (hb hby own_daddg_20) rfl) ?_
  show own_End p e below P (T2.setTop (mkF m 21 #[.val (.ref o0), .val (.long q1), .second, .val (.long q2), .second, .unset] [(.long ((3 : Int64) * ((0 : Int32).toInt64))), (.long ((4 : Int64) * ((1 : Int32).toInt64)))]))
  refine own_st (fun _ => XS.lcmp X2.here hx rfl (hb hby own_daddg_21) rfl) ?_
  show own_End p e below P (T2.setTop (mkF m 22 #[.val (.ref o0), .val (.long q1), .second, .val (.long q2), .second, .unset] [(.int (lcmpW ((4 : Int64) * ((1 : Int32).toInt64)) ((3 : Int64) * ((0 : Int32).toInt64))))]))
  have hd3 : ((3 : Int64) * ((0 : Int32).toInt64)) < ((4 : Int64) * ((1 : Int32).toInt64)) := by decide
  refine own_st (fun _ => XS.ifNo X2.here hx rfl (hb hby own_daddg_22) rfl ((if0 _ _).trans (tlt (own_gt.mpr hd3)).2.2.2)) ?_
  show own_End p e below P (T2.setTop (mkF m 25 #[.val (.ref o0), .val (.long q1), .second, .val (.long q2), .second, .unset] []))
  refine own_st (fun _ => XS.aloadN X2.here hx rfl (hb hby own_daddg_25) rfl rfl) ?_
  show own_End p e below P (T2.setTop (mkF m 26 #[.val (.ref o0), .val (.long q1), .second, .val (.long q2), .second, .unset] [(.ref o0)]))
  refine own_callP X2 hx hZ (y := (⟨"com/example/defnot/defnot/CuckooStash", "grow", "()V"⟩ : MethodName)) (z := (⟨"com/example/defnot/defnot/CuckooStash", "bytes", "()J"⟩ : MethodName)) hown (hw _ (List.mem_of_getElem? (i := 57) rfl)) (hw _ (List.mem_of_getElem? (i := 58) rfl)) rfl (hw _ (List.mem_of_getElem? (i := 22) rfl)) (hw _ (List.mem_of_getElem? (i := 59) rfl)) (hw _ (List.mem_of_getElem? (i := 2) rfl)) (hw _ (List.mem_of_getElem? (i := 60) rfl)) (by decide) E_o0 (own_mgrow l Z a0 hw [] o0 w_o0_entries w_o0_counts h0 n0 (Nat.le_trans Z0 K0.1) E_o0 F_o0_entries F_o0_counts F_o0_size F_o0_copies A_w_o0_entries low_o0 ne_o0_w_o0_entries) 0 (by decide) (by decide) e2 (by decide) (by decide) (g := (mkF m 26 #[.val (.ref o0), .val (.long q1), .second, .val (.long q2), .second, .unset] [(.ref o0)])) rfl (by rw [hml']; rfl) (argsL := []) (rest := []) rfl (lenOf own_pd_V_167 rfl) rfl (by show 2 * 0 + _ ≤ _; exact Nat.le_of_eq rfl) (hb hby own_daddg_26) (fun r4 T4 L4 X4 hQ4 => ?_)
  obtain ⟨b5_4, b13_4, rfl, Nq4, Kq4, szq_b5_4, low_b5_4, szq_b13_4, low_b13_4, ne_b5_4_b13_4, f0_4, f1_4, f2_4, f3_4, f4_4, f5_4, f6_4⟩ := hQ4
  have N4 := Fr.app N0 Nq4
  have ne5 : o0 ≠ b5_4 := Nat.ne_of_lt (Nat.lt_of_lt_of_le E_o0.lt szq_b5_4)
  have ne6 : o0 ≠ b13_4 := Nat.ne_of_lt (Nat.lt_of_lt_of_le E_o0.lt szq_b13_4)
  have ne7 : w_o0_counts ≠ b5_4 := Nat.ne_of_lt (Nat.lt_of_lt_of_le A_w_o0_counts.lt szq_b5_4)
  have ne8 : w_o0_counts ≠ b13_4 := Nat.ne_of_lt (Nat.lt_of_lt_of_le A_w_o0_counts.lt szq_b13_4)
  have ne9 : w_o0_entries ≠ b5_4 := Nat.ne_of_lt (Nat.lt_of_lt_of_le A_w_o0_entries.lt szq_b5_4)
  have ne10 : w_o0_entries ≠ b13_4 := Nat.ne_of_lt (Nat.lt_of_lt_of_le A_w_o0_entries.lt szq_b13_4)
  have sz_b5_4 := Nat.le_trans K0.1 szq_b5_4
  have sz_b13_4 := Nat.le_trans K0.1 szq_b13_4
  have K4 := Keep.trans K0 Kq4 (allS (Or.inl (List.mem_of_getElem? (i := 0) rfl)) all0)
  show own_End p e below P (T4.setTop (mkF m 29 #[.val (.ref o0), .val (.long q1), .second, .val (.long q2), .second, .unset] []))
  refine own_st (fun _ => XS.aloadN X4.here hx rfl (hb hby own_daddg_29) rfl rfl) ?_
  show own_End p e below P (T4.setTop (mkF m 30 #[.val (.ref o0), .val (.long q1), .second, .val (.long q2), .second, .unset] [(.ref o0)]))
  refine own_st (fun _ => XS.lloadN X4.here hx rfl (hb hby own_daddg_30) rfl) ?_
  show own_End p e below P (T4.setTop (mkF m 31 #[.val (.ref o0), .val (.long q1), .second, .val (.long q2), .second, .unset] [(.long q1), (.ref o0)]))
  refine own_callP X4 hx hZ (y := (⟨"com/example/defnot/defnot/CuckooStash", "find", "(J)I"⟩ : MethodName)) (z := (⟨"com/example/defnot/defnot/CuckooStash", "bytes", "()J"⟩ : MethodName)) hown (hw _ (List.mem_of_getElem? (i := 37) rfl)) (hw _ (List.mem_of_getElem? (i := 38) rfl)) rfl (hw _ (List.mem_of_getElem? (i := 22) rfl)) (hw _ (List.mem_of_getElem? (i := 39) rfl)) (hw _ (List.mem_of_getElem? (i := 2) rfl)) (hw _ (List.mem_of_getElem? (i := 40) rfl)) (by decide) f0_4 (own_mfind l Z a0 hw [] o0 q1 16 b5_4 T4.heap n0 (Nat.le_trans Z0 K4.1) f1_4 f5_4 (by decide) (by decide)) 0 (by decide) (by decide) rfl (by decide) (by decide) (g := (mkF m 31 #[.val (.ref o0), .val (.long q1), .second, .val (.long q2), .second, .unset] [(.long q1), (.ref o0)])) rfl (by rw [hml']; rfl) (argsL := [(.long q1)]) (rest := []) rfl (lenOf own_pd_J_I_228 rfl) rfl (by show 2 * 0 + _ ≤ _; exact Nat.le_of_eq rfl) (hb hby own_daddg_31) (fun r11 T11 L11 X11 hQ11 => ?_)
  obtain ⟨rfl, Nq11, eq11⟩ := hQ11
  have N11 := Fr.app N4 Nq11
  show own_End p e below P (T11.setTop (mkF m 34 #[.val (.ref o0), .val (.long q1), .second, .val (.long q2), .second, .unset] [(.int (own_ffind q1 16))]))
  refine own_st (fun _ => XS.istore X11.here hx rfl (hb hby own_daddg_34) rfl (l' := #[.val (.ref o0), .val (.long q1), .second, .val (.long q2), .second, .val (.int (own_ffind q1 16))]) rfl) ?_
  show own_End p e below P (T11.setTop (mkF m 36 #[.val (.ref o0), .val (.long q1), .second, .val (.long q2), .second, .val (.int (own_ffind q1 16))] []))
  refine own_st (fun _ => XS.aloadN X11.here hx rfl (hb hby own_daddg_36) rfl rfl) ?_
  show own_End p e below P (T11.setTop (mkF m 37 #[.val (.ref o0), .val (.long q1), .second, .val (.long q2), .second, .val (.int (own_ffind q1 16))] [(.ref o0)]))
  obtain ⟨T12, X12, e12, st12⟩ := getF X11 hx hZ hown (host := "") (Or.inl (hw _ (List.mem_of_getElem? (i := 15) rfl))) Via.refl eq11 f1_4 (g := (mkF m 37 #[.val (.ref o0), .val (.long q1), .second, .val (.long q2), .second, .val (.int (own_ffind q1 16))] [(.ref o0)])) rfl rfl (hb hby own_daddg_37)
  refine own_st (fun _ => st12 _) ?_
  show own_End p e below P (T12.setTop (mkF m 40 #[.val (.ref o0), .val (.long q1), .second, .val (.long q2), .second, .val (.int (own_ffind q1 16))] [(.ref b5_4)]))
  refine own_st (fun _ => XS.iload X12.here hx rfl (hb hby own_daddg_40) rfl) ?_
  show own_End p e below P (T12.setTop (mkF m 42 #[.val (.ref o0), .val (.long q1), .second, .val (.long q2), .second, .val (.int (own_ffind q1 16))] [(.int (own_ffind q1 16)), (.ref b5_4)]))
  refine own_laload X12 hx hZ e12 f5_4 (j := (own_ffind q1 16)) (v := (0 : Int64)) (i := (own_ffind q1 16).toNatClampNeg) (own_idx (cp := 16) _ (by decide) (by decide)).1 (own_rep (own_idx (cp := 16) _ (by decide) (by decide)).2) (g := (mkF m 42 #[.val (.ref o0), .val (.long q1), .second, .val (.long q2), .second, .val (.int (own_ffind q1 16))] [(.int (own_ffind q1 16)), (.ref b5_4)])) rfl rfl (hb hby own_daddg_42) ?_
  show own_End p e below P (T12.setTop (mkF m 43 #[.val (.ref o0), .val (.long q1), .second, .val (.long q2), .second, .val (.int (own_ffind q1 16))] [(.long (0 : Int64))]))
  refine own_st (fun _ => XS.lconst X12.here hx rfl (hb hby own_daddg_43)) ?_
  show own_End p e below P (T12.setTop (mkF m 44 #[.val (.ref o0), .val (.long q1), .second, .val (.long q2), .second, .val (.int (own_ffind q1 16))] [(.long (0 : Int64)), (.long (0 : Int64))]))
  refine own_st (fun _ => XS.lcmp X12.here hx rfl (hb hby own_daddg_44) rfl) ?_
  show own_End p e below P (T12.setTop (mkF m 45 #[.val (.ref o0), .val (.long q1), .second, .val (.long q2), .second, .val (.int (own_ffind q1 16))] [(.int (lcmpW (0 : Int64) (0 : Int64)))]))
  refine own_st (fun _ => XS.ifNo X12.here hx rfl (hb hby own_daddg_45) rfl ((if0 _ _).trans (teq (own_eq.mpr (by decide : (0 : Int64) = (0 : Int64)))).2)) ?_
  show own_End p e below P (T12.setTop (mkF m 48 #[.val (.ref o0), .val (.long q1), .second, .val (.long q2), .second, .val (.int (own_ffind q1 16))] []))
  refine own_st (fun _ => XS.aloadN X12.here hx rfl (hb hby own_daddg_48) rfl rfl) ?_
  show own_End p e below P (T12.setTop (mkF m 49 #[.val (.ref o0), .val (.long q1), .second, .val (.long q2), .second, .val (.int (own_ffind q1 16))] [(.ref o0)]))
  obtain ⟨T13, X13, e13, st13⟩ := getF X12 hx hZ hown (host := "") (Or.inl (hw _ (List.mem_of_getElem? (i := 15) rfl))) Via.refl e12 f1_4 (g := (mkF m 49 #[.val (.ref o0), .val (.long q1), .second, .val (.long q2), .second, .val (.int (own_ffind q1 16))] [(.ref o0)])) rfl rfl (hb hby own_daddg_49)
  refine own_st (fun _ => st13 _) ?_
  show own_End p e below P (T13.setTop (mkF m 52 #[.val (.ref o0), .val (.long q1), .second, .val (.long q2), .second, .val (.int (own_ffind q1 16))] [(.ref b5_4)]))
  refine own_st (fun _ => XS.iload X13.here hx rfl (hb hby own_daddg_52) rfl) ?_
  show own_End p e below P (T13.setTop (mkF m 54 #[.val (.ref o0), .val (.long q1), .second, .val (.long q2), .second, .val (.int (own_ffind q1 16))] [(.int (own_ffind q1 16)), (.ref b5_4)]))
  refine own_st (fun _ => XS.lloadN X13.here hx rfl (hb hby own_daddg_54) rfl) ?_
  show own_End p e below P (T13.setTop (mkF m 55 #[.val (.ref o0), .val (.long q1), .second, .val (.long q2), .second, .val (.int (own_ffind q1 16))] [(.long q1), (.int (own_ffind q1 16)), (.ref b5_4)]))
  refine own_lastore X13 hx hZ e13 f5_4 (j := (own_ffind q1 16)) (v := q1) (i := (own_ffind q1 16).toNatClampNeg) (own_idx (cp := 16) _ (by decide) (by decide)).1 (by rw [List.length_replicate]; exact (own_idx (cp := 16) _ (by decide) (by decide)).2) (g := (mkF m 55 #[.val (.ref o0), .val (.long q1), .second, .val (.long q2), .second, .val (.int (own_ffind q1 16))] [(.long q1), (.int (own_ffind q1 16)), (.ref b5_4)])) rfl rfl (hb hby own_daddg_55) (fun T14 h14 X14 e14 W14 B14 => ?_)
  have A14 : own_LA Z h14 b5_4 ((List.replicate 16 (0 : Int64)).set (own_ffind q1 16).toNatClampNeg q1) := B14
  have N14 := Fr.snoc X14 N11 low_b5_4
  have K14 := Keep.wr K4 W14 (Or.inr sz_b5_4)
  show own_End p e below P (T14.setTop (mkF m 56 #[.val (.ref o0), .val (.long q1), .second, .val (.long q2), .second, .val (.int (own_ffind q1 16))] []))
  refine own_st (fun _ => XS.aloadN X14.here hx rfl (hb hby own_daddg_56) rfl rfl) ?_
  show own_End p e below P (T14.setTop (mkF m 57 #[.val (.ref o0), .val (.long q1), .second, .val (.long q2), .second, .val (.int (own_ffind q1 16))] [(.ref o0)]))
  refine own_st (fun _ => XS.dup X14.here hx rfl (hb hby own_daddg_57) rfl rfl) ?_
  show own_End p e below P (T14.setTop (mkF m 58 #[.val (.ref o0), .val (.long q1), .second, .val (.long q2), .second, .val (.int (own_ffind q1 16))] [(.ref o0), (.ref o0)]))
  have G15 := (f3_4.other W14 (Or.inl ne5))
  obtain ⟨T16, X16, e16, st16⟩ := getF X14 hx hZ hown (host := "") (Or.inl (hw _ (List.mem_of_getElem? (i := 35) rfl))) Via.refl e14 G15 (g := (mkF m 58 #[.val (.ref o0), .val (.long q1), .second, .val (.long q2), .second, .val (.int (own_ffind q1 16))] [(.ref o0), (.ref o0)])) rfl rfl (hb hby own_daddg_58)
  refine own_st (fun _ => st16 _) ?_
  show own_End p e below P (T16.setTop (mkF m 61 #[.val (.ref o0), .val (.long q1), .second, .val (.long q2), .second, .val (.int (own_ffind q1 16))] [(.int (0 : Int32)), (.ref o0)]))
  refine own_st (fun _ => XS.iconst X16.here hx rfl (hb hby own_daddg_61)) ?_
  show own_End p e below P (T16.setTop (mkF m 62 #[.val (.ref o0), .val (.long q1), .second, .val (.long q2), .second, .val (.int (own_ffind q1 16))] [(.int (1 : Int32)), (.int (0 : Int32)), (.ref o0)]))
  refine own_st (fun _ => XS.iadd X16.here hx rfl (hb hby own_daddg_62) rfl) ?_
  show own_End p e below P (T16.setTop (mkF m 63 #[.val (.ref o0), .val (.long q1), .second, .val (.long q2), .second, .val (.int (own_ffind q1 16))] [(.int (1 : Int32)), (.ref o0)]))
  have G17 := (f0_4.wr W14)
  obtain ⟨T18, h18, X18, e18, W18, st18⟩ := putF X16 hx hZ hown (host := "") (Or.inl (hw _ (List.mem_of_getElem? (i := 35) rfl))) Via.refl e16 G15 G17 (Or.inl (hw _ (List.mem_of_getElem? (i := 36) rfl))) (hw _ (List.mem_of_getElem? (i := 1) rfl)) (ty := .int) (by decide) rfl rfl (g := (mkF m 63 #[.val (.ref o0), .val (.long q1), .second, .val (.long q2), .second, .val (.int (own_ffind q1 16))] [(.int (1 : Int32)), (.ref o0)])) rfl rfl (hb hby own_daddg_63)
  have N18 := Fr.snoc X18 N14 low_o0
  have K18 := Keep.wr K14 W18 (Or.inl (List.mem_of_getElem? (i := 0) rfl))
  have F18 := G15.same W18
  refine own_st (fun _ => st18 _) ?_
  show own_End p e below P (T18.setTop (mkF m 66 #[.val (.ref o0), .val (.long q1), .second, .val (.long q2), .second, .val (.int (own_ffind q1 16))] []))
  refine own_st (fun _ => XS.aloadN X18.here hx rfl (hb hby own_daddg_66) rfl rfl) ?_
  show own_End p e below P (T18.setTop (mkF m 67 #[.val (.ref o0), .val (.long q1), .second, .val (.long q2), .second, .val (.int (own_ffind q1 16))] [(.ref o0)]))
  have G19 := ((f2_4.other W14 (Or.inl ne5)).other W18 (Or.inr (slot_ne (Or.inl (hw _ (List.mem_of_getElem? (i := 18) rfl))) (Or.inl (hw _ (List.mem_of_getElem? (i := 36) rfl))) (by decide) (t := (.array .long)) (t' := .int) (by decide) (by decide))))
  obtain ⟨T20, X20, e20, st20⟩ := getF X18 hx hZ hown (host := "") (Or.inl (hw _ (List.mem_of_getElem? (i := 17) rfl))) Via.refl e18 G19 (g := (mkF m 67 #[.val (.ref o0), .val (.long q1), .second, .val (.long q2), .second, .val (.int (own_ffind q1 16))] [(.ref o0)])) rfl rfl (hb hby own_daddg_67)
  refine own_st (fun _ => st20 _) ?_
  show own_End p e below P (T20.setTop (mkF m 70 #[.val (.ref o0), .val (.long q1), .second, .val (.long q2), .second, .val (.int (own_ffind q1 16))] [(.ref b13_4)]))
  refine own_st (fun _ => XS.iload X20.here hx rfl (hb hby own_daddg_70) rfl) ?_
  show own_End p e below P (T20.setTop (mkF m 72 #[.val (.ref o0), .val (.long q1), .second, .val (.long q2), .second, .val (.int (own_ffind q1 16))] [(.int (own_ffind q1 16)), (.ref b13_4)]))
  refine own_st (fun _ => Jvm.Free.XT.dup2 X20.here hx rfl (hb hby own_daddg_72) rfl rfl rfl) ?_
  show own_End p e below P (T20.setTop (mkF m 73 #[.val (.ref o0), .val (.long q1), .second, .val (.long q2), .second, .val (.int (own_ffind q1 16))] [(.int (own_ffind q1 16)), (.ref b13_4), (.int (own_ffind q1 16)), (.ref b13_4)]))
  have G21 := ((f6_4.other W14 (Ne.symm ne_b5_4_b13_4)).other W18 (Ne.symm ne6))
  refine own_laload X20 hx hZ e20 G21 (j := (own_ffind q1 16)) (v := (0 : Int64)) (i := (own_ffind q1 16).toNatClampNeg) (own_idx (cp := 16) _ (by decide) (by decide)).1 (own_rep (own_idx (cp := 16) _ (by decide) (by decide)).2) (g := (mkF m 73 #[.val (.ref o0), .val (.long q1), .second, .val (.long q2), .second, .val (.int (own_ffind q1 16))] [(.int (own_ffind q1 16)), (.ref b13_4), (.int (own_ffind q1 16)), (.ref b13_4)])) rfl rfl (hb hby own_daddg_73) ?_
  show own_End p e below P (T20.setTop (mkF m 74 #[.val (.ref o0), .val (.long q1), .second, .val (.long q2), .second, .val (.int (own_ffind q1 16))] [(.long (0 : Int64)), (.int (own_ffind q1 16)), (.ref b13_4)]))
  refine own_st (fun _ => XS.lloadN X20.here hx rfl (hb hby own_daddg_74) rfl) ?_
  show own_End p e below P (T20.setTop (mkF m 75 #[.val (.ref o0), .val (.long q1), .second, .val (.long q2), .second, .val (.int (own_ffind q1 16))] [(.long q2), (.long (0 : Int64)), (.int (own_ffind q1 16)), (.ref b13_4)]))
  refine own_st (fun _ => XS.ladd X20.here hx rfl (hb hby own_daddg_75) rfl) ?_
  show own_End p e below P (T20.setTop (mkF m 76 #[.val (.ref o0), .val (.long q1), .second, .val (.long q2), .second, .val (.int (own_ffind q1 16))] [(.long ((0 : Int64) + q2)), (.int (own_ffind q1 16)), (.ref b13_4)]))
  refine own_lastore X20 hx hZ e20 G21 (j := (own_ffind q1 16)) (v := ((0 : Int64) + q2)) (i := (own_ffind q1 16).toNatClampNeg) (own_idx (cp := 16) _ (by decide) (by decide)).1 (by rw [List.length_replicate]; exact (own_idx (cp := 16) _ (by decide) (by decide)).2) (g := (mkF m 76 #[.val (.ref o0), .val (.long q1), .second, .val (.long q2), .second, .val (.int (own_ffind q1 16))] [(.long ((0 : Int64) + q2)), (.int (own_ffind q1 16)), (.ref b13_4)])) rfl rfl (hb hby own_daddg_76) (fun T22 h22 X22 e22 W22 B22 => ?_)
  have A22 : own_LA Z h22 b13_4 ((List.replicate 16 (0 : Int64)).set (own_ffind q1 16).toNatClampNeg ((0 : Int64) + q2)) := B22
  have N22 := Fr.snoc X22 N18 low_b13_4
  have K22 := Keep.wr K18 W22 (Or.inr sz_b13_4)
  show own_End p e below P (T22.setTop (mkF m 77 #[.val (.ref o0), .val (.long q1), .second, .val (.long q2), .second, .val (.int (own_ffind q1 16))] []))
  refine own_st (fun _ => XS.aloadN X22.here hx rfl (hb hby own_daddg_77) rfl rfl) ?_
  show own_End p e below P (T22.setTop (mkF m 78 #[.val (.ref o0), .val (.long q1), .second, .val (.long q2), .second, .val (.int (own_ffind q1 16))] [(.ref o0)]))
  refine own_st (fun _ => XS.dup X22.here hx rfl (hb hby own_daddg_78) rfl rfl) ?_
  show own_End p e below P (T22.setTop (mkF m 79 #[.val (.ref o0), .val (.long q1), .second, .val (.long q2), .second, .val (.int (own_ffind q1 16))] [(.ref o0), (.ref o0)]))
  have G23 := (((f4_4.other W14 (Or.inl ne5)).other W18 (Or.inr (slot_ne (Or.inl (hw _ (List.mem_of_getElem? (i := 48) rfl))) (Or.inl (hw _ (List.mem_of_getElem? (i := 36) rfl))) (by decide) (t := .long) (t' := .int) (by decide) (by decide)))).other W22 (Or.inl ne6))
  obtain ⟨T24, X24, e24, st24⟩ := getF X22 hx hZ hown (host := "") (Or.inl (hw _ (List.mem_of_getElem? (i := 47) rfl))) Via.refl e22 G23 (g := (mkF m 79 #[.val (.ref o0), .val (.long q1), .second, .val (.long q2), .second, .val (.int (own_ffind q1 16))] [(.ref o0), (.ref o0)])) rfl rfl (hb hby own_daddg_79)
  refine own_st (fun _ => st24 _) ?_
  show own_End p e below P (T24.setTop (mkF m 82 #[.val (.ref o0), .val (.long q1), .second, .val (.long q2), .second, .val (.int (own_ffind q1 16))] [(.long (0 : Int64)), (.ref o0)]))
  refine own_st (fun _ => XS.lloadN X24.here hx rfl (hb hby own_daddg_82) rfl) ?_
  show own_End p e below P (T24.setTop (mkF m 83 #[.val (.ref o0), .val (.long q1), .second, .val (.long q2), .second, .val (.int (own_ffind q1 16))] [(.long q2), (.long (0 : Int64)), (.ref o0)]))
  refine own_st (fun _ => XS.ladd X24.here hx rfl (hb hby own_daddg_83) rfl) ?_
  show own_End p e below P (T24.setTop (mkF m 84 #[.val (.ref o0), .val (.long q1), .second, .val (.long q2), .second, .val (.int (own_ffind q1 16))] [(.long ((0 : Int64) + q2)), (.ref o0)]))
  have G25 := ((G17.wr W18).wr W22)
  obtain ⟨T26, h26, X26, e26, W26, st26⟩ := putF X24 hx hZ hown (host := "") (Or.inl (hw _ (List.mem_of_getElem? (i := 47) rfl))) Via.refl e24 G23 G25 (Or.inl (hw _ (List.mem_of_getElem? (i := 48) rfl))) (hw _ (List.mem_of_getElem? (i := 1) rfl)) (ty := .long) (by decide) rfl rfl (g := (mkF m 84 #[.val (.ref o0), .val (.long q1), .second, .val (.long q2), .second, .val (.int (own_ffind q1 16))] [(.long ((0 : Int64) + q2)), (.ref o0)])) rfl rfl (hb hby own_daddg_84)
  have N26 := Fr.snoc X26 N22 low_o0
  have K26 := Keep.wr K22 W26 (Or.inl (List.mem_of_getElem? (i := 0) rfl))
  have F26 := G23.same W26
  refine own_st (fun _ => st26 _) ?_
  show own_End p e below P (T26.setTop (mkF m 87 #[.val (.ref o0), .val (.long q1), .second, .val (.long q2), .second, .val (.int (own_ffind q1 16))] []))
  have G27 := (G25.wr W26)
  have G28 := ((((f1_4.other W14 (Or.inl ne5)).other W18 (Or.inr (slot_ne (Or.inl (hw _ (List.mem_of_getElem? (i := 16) rfl))) (Or.inl (hw _ (List.mem_of_getElem? (i := 36) rfl))) (by decide) (t := (.array .long)) (t' := .int) (by decide) (by decide)))).other W22 (Or.inl ne6)).other W26 (Or.inr (slot_ne (Or.inl (hw _ (List.mem_of_getElem? (i := 16) rfl))) (Or.inl (hw _ (List.mem_of_getElem? (i := 48) rfl))) (by decide) (t := (.array .long)) (t' := .long) (by decide) (by decide))))
  have G29 := ((G19.other W22 (Or.inl ne6)).other W26 (Or.inr (slot_ne (Or.inl (hw _ (List.mem_of_getElem? (i := 18) rfl))) (Or.inl (hw _ (List.mem_of_getElem? (i := 48) rfl))) (by decide) (t := (.array .long)) (t' := .long) (by decide) (by decide))))
  have G30 := ((F18.other W22 (Or.inl ne6)).other W26 (Or.inr (slot_ne (Or.inl (hw _ (List.mem_of_getElem? (i := 36) rfl))) (Or.inl (hw _ (List.mem_of_getElem? (i := 48) rfl))) (by decide) (t := .int) (t' := .long) (by decide) (by decide))))
  have G31 := (((((A_w_o0_entries.keep Kq4 (ninS (Ne.symm ne_o0_w_o0_entries) nin0)).other W14 ne9).other W18 (Ne.symm ne_o0_w_o0_entries)).other W22 ne10).other W26 (Ne.symm ne_o0_w_o0_entries))
  have G32 := (((((A_w_o0_counts.keep Kq4 (ninS (Ne.symm ne_o0_w_o0_counts) nin0)).other W14 ne7).other W18 (Ne.symm ne_o0_w_o0_counts)).other W22 ne8).other W26 (Ne.symm ne_o0_w_o0_counts))
  have G33 := (((A14.other W18 (Ne.symm ne5)).other W22 ne_b5_4_b13_4).other W26 (Ne.symm ne5))
  have G34 := (A22.other W26 (Ne.symm ne6))
  have hfin : ((fun (v : Option Value) (h : Heap) (L : List Loc) => ∃ (b5_4 : Addr) (b13_4 : Addr), v = none ∧ Fr n0 L ∧ Keep h0 h [o0, w_o0_entries, w_o0_counts] ∧ h0.size ≤ b5_4 ∧ n0 ≤ b5_4 ∧ h0.size ≤ b13_4 ∧ n0 ≤ b13_4 ∧ b5_4 ≠ b13_4 ∧ Exa Z h o0 "com/example/defnot/defnot/CuckooStash" ∧ Fld Z h o0 "com/example/defnot/defnot/CuckooStash" "entries" "[J" (.ref b5_4) ∧ Fld Z h o0 "com/example/defnot/defnot/CuckooStash" "counts" "[J" (.ref b13_4) ∧ Fld Z h o0 "com/example/defnot/defnot/CuckooStash" "size" "I" (.int (1 : Int32)) ∧ Fld Z h o0 "com/example/defnot/defnot/CuckooStash" "copies" "J" (.long ((0 : Int64) + q2)) ∧ own_LA Z h w_o0_entries ([] : List Int64) ∧ own_LA Z h w_o0_counts ([] : List Int64) ∧ own_LA Z h b5_4 ((List.replicate 16 (0 : Int64)).set (own_ffind q1 16).toNatClampNeg q1) ∧ own_LA Z h b13_4 ((List.replicate 16 (0 : Int64)).set (own_ffind q1 16).toNatClampNeg ((0 : Int64) + q2)))) none h26 _ := ⟨b5_4, b13_4, rfl, N26, K26, sz_b5_4, low_b5_4, sz_b13_4, low_b13_4, ne_b5_4_b13_4, G27, G28, G29, G30, F26, G31, G32, G33, G34⟩
  refine own_retV X26 hx hlk hP hrt (hb hby own_daddg_87) (by decide) (by decide) ?_
  rw [e26]; exact hfin
def own_chk (m : Nat) : Bool := decide (own_fexp (Int32.ofNat m) = (((2 : Int64) * ((own_plc (Int32.ofNat m)).toInt64)) * (8 : Int64))) && decide (0 ≤ (own_plc (Int32.ofNat m)).toInt) && decide ((own_plc (Int32.ofNat m)).toInt ≤ 32768) && (m == 0 || decide (16 ≤ (own_plc (Int32.ofNat m)).toInt))
def own_row (a n : Nat) : Bool := (List.range n).all (fun b => own_chk (a + b))
theorem own_r0 : own_row 0 256 = true := by decide +kernel
theorem own_r1 : own_row 256 256 = true := by decide +kernel
theorem own_r2 : own_row 512 256 = true := by decide +kernel
theorem own_r3 : own_row 768 256 = true := by decide +kernel
theorem own_r4 : own_row 1024 256 = true := by decide +kernel
theorem own_r5 : own_row 1280 256 = true := by decide +kernel
theorem own_r6 : own_row 1536 256 = true := by decide +kernel
theorem own_r7 : own_row 1792 256 = true := by decide +kernel
theorem own_r8 : own_row 2048 256 = true := by decide +kernel
theorem own_r9 : own_row 2304 256 = true := by decide +kernel
theorem own_r10 : own_row 2560 256 = true := by decide +kernel
theorem own_r11 : own_row 2816 256 = true := by decide +kernel
theorem own_r12 : own_row 3072 256 = true := by decide +kernel
theorem own_r13 : own_row 3328 256 = true := by decide +kernel
theorem own_r14 : own_row 3584 256 = true := by decide +kernel
theorem own_r15 : own_row 3840 256 = true := by decide +kernel
theorem own_r16 : own_row 4096 256 = true := by decide +kernel
theorem own_r17 : own_row 4352 256 = true := by decide +kernel
theorem own_r18 : own_row 4608 256 = true := by decide +kernel
theorem own_r19 : own_row 4864 256 = true := by decide +kernel
theorem own_r20 : own_row 5120 256 = true := by decide +kernel
theorem own_r21 : own_row 5376 256 = true := by decide +kernel
theorem own_r22 : own_row 5632 256 = true := by decide +kernel
theorem own_r23 : own_row 5888 256 = true := by decide +kernel
theorem own_r24 : own_row 6144 256 = true := by decide +kernel
theorem own_r25 : own_row 6400 256 = true := by decide +kernel
theorem own_r26 : own_row 6656 256 = true := by decide +kernel
theorem own_r27 : own_row 6912 256 = true := by decide +kernel
theorem own_r28 : own_row 7168 256 = true := by decide +kernel
theorem own_r29 : own_row 7424 256 = true := by decide +kernel
theorem own_r30 : own_row 7680 256 = true := by decide +kernel
theorem own_r31 : own_row 7936 256 = true := by decide +kernel
theorem own_r32 : own_row 8192 256 = true := by decide +kernel
theorem own_r33 : own_row 8448 256 = true := by decide +kernel
theorem own_r34 : own_row 8704 256 = true := by decide +kernel
theorem own_r35 : own_row 8960 256 = true := by decide +kernel
theorem own_r36 : own_row 9216 256 = true := by decide +kernel
theorem own_r37 : own_row 9472 256 = true := by decide +kernel
theorem own_r38 : own_row 9728 256 = true := by decide +kernel
theorem own_r39 : own_row 9984 256 = true := by decide +kernel
theorem own_r40 : own_row 10240 256 = true := by decide +kernel
theorem own_r41 : own_row 10496 256 = true := by decide +kernel
theorem own_r42 : own_row 10752 256 = true := by decide +kernel
theorem own_r43 : own_row 11008 256 = true := by decide +kernel
theorem own_r44 : own_row 11264 256 = true := by decide +kernel
theorem own_r45 : own_row 11520 256 = true := by decide +kernel
theorem own_r46 : own_row 11776 256 = true := by decide +kernel
theorem own_r47 : own_row 12032 256 = true := by decide +kernel
theorem own_r48 : own_row 12288 256 = true := by decide +kernel
theorem own_r49 : own_row 12544 256 = true := by decide +kernel
theorem own_r50 : own_row 12800 256 = true := by decide +kernel
theorem own_r51 : own_row 13056 256 = true := by decide +kernel
theorem own_r52 : own_row 13312 256 = true := by decide +kernel
theorem own_r53 : own_row 13568 256 = true := by decide +kernel
theorem own_r54 : own_row 13824 256 = true := by decide +kernel
theorem own_r55 : own_row 14080 256 = true := by decide +kernel
theorem own_r56 : own_row 14336 256 = true := by decide +kernel
theorem own_r57 : own_row 14592 256 = true := by decide +kernel
theorem own_r58 : own_row 14848 256 = true := by decide +kernel
theorem own_r59 : own_row 15104 256 = true := by decide +kernel
theorem own_r60 : own_row 15360 256 = true := by decide +kernel
theorem own_r61 : own_row 15616 256 = true := by decide +kernel
theorem own_r62 : own_row 15872 256 = true := by decide +kernel
theorem own_r63 : own_row 16128 256 = true := by decide +kernel
theorem own_rows : ∀ q : Nat, q < 64 → own_row (256 * q) 256 = true
  | 0, _ => own_r0
  | 1, _ => own_r1
  | 2, _ => own_r2
  | 3, _ => own_r3
  | 4, _ => own_r4
  | 5, _ => own_r5
  | 6, _ => own_r6
  | 7, _ => own_r7
  | 8, _ => own_r8
  | 9, _ => own_r9
  | 10, _ => own_r10
  | 11, _ => own_r11
  | 12, _ => own_r12
  | 13, _ => own_r13
  | 14, _ => own_r14
  | 15, _ => own_r15
  | 16, _ => own_r16
  | 17, _ => own_r17
  | 18, _ => own_r18
  | 19, _ => own_r19
  | 20, _ => own_r20
  | 21, _ => own_r21
  | 22, _ => own_r22
  | 23, _ => own_r23
  | 24, _ => own_r24
  | 25, _ => own_r25
  | 26, _ => own_r26
  | 27, _ => own_r27
  | 28, _ => own_r28
  | 29, _ => own_r29
  | 30, _ => own_r30
  | 31, _ => own_r31
  | 32, _ => own_r32
  | 33, _ => own_r33
  | 34, _ => own_r34
  | 35, _ => own_r35
  | 36, _ => own_r36
  | 37, _ => own_r37
  | 38, _ => own_r38
  | 39, _ => own_r39
  | 40, _ => own_r40
  | 41, _ => own_r41
  | 42, _ => own_r42
  | 43, _ => own_r43
  | 44, _ => own_r44
  | 45, _ => own_r45
  | 46, _ => own_r46
  | 47, _ => own_r47
  | 48, _ => own_r48
  | 49, _ => own_r49
  | 50, _ => own_r50
  | 51, _ => own_r51
  | 52, _ => own_r52
  | 53, _ => own_r53
  | 54, _ => own_r54
  | 55, _ => own_r55
  | 56, _ => own_r56
  | 57, _ => own_r57
  | 58, _ => own_r58
  | 59, _ => own_r59
  | 60, _ => own_r60
  | 61, _ => own_r61
  | 62, _ => own_r62
  | 63, _ => own_r63
  | n + 64, h => absurd h (by omega)
theorem own_all (m : Nat) (h : m < 16384) : own_chk m = true := by
  have r := own_rows (m / 256) (by omega)
  have q := List.all_eq_true.mp r (m % 256) (List.mem_range.mpr (Nat.mod_lt _ (by decide)))
  rwa [Nat.div_add_mod] at q
theorem own_facts (p : Int32) : ∃ cp : Nat, own_fexp (p &&& (16383 : Int32)) = (((2 : Int64) * ((Int32.ofNat cp).toInt64)) * (8 : Int64)) ∧ (own_plc (p &&& (16383 : Int32))).toInt = (cp : Int) ∧ cp ≤ 32768 ∧ (¬ (p &&& (16383 : Int32)) = (0 : Int32) → 16 ≤ cp) ∧ ((p &&& (16383 : Int32)) = (0 : Int32) → cp = 0) ∧ (0 ≤ (p &&& (16383 : Int32)).toInt ∧ (p &&& (16383 : Int32)).toInt ≤ 16383) := by
  have e := Jvm.Kit.i32_mask p 16383 (k := 14) (by decide) (by decide)
  have b : 0 ≤ (p &&& (16383 : Int32)).toInt ∧ (p &&& (16383 : Int32)).toInt ≤ 16383 := by rw [e]; omega
  generalize (p &&& (16383 : Int32)) = w at *
  have ew : w = Int32.ofNat w.toInt.toNat := by apply Int32.toInt_inj.mp; rw [own_ofn (by omega)]; omega
  have c := own_all w.toInt.toNat (by omega)
  unfold own_chk at c
  rw [← ew] at c
  simp only [Bool.and_eq_true, decide_eq_true_eq, Bool.or_eq_true, beq_iff_eq] at c
  obtain ⟨⟨⟨c1, c2⟩, c3⟩, c4⟩ := c
  have ep : own_plc w = Int32.ofNat (own_plc w).toInt.toNat := by apply Int32.toInt_inj.mp; rw [own_ofn (by omega)]; omega
  refine ⟨(own_plc w).toInt.toNat, ?_, by omega, by omega, fun hz => ?_, fun hz => ?_, b⟩
  · rw [← ep]; exact c1
  · rcases c4 with c4 | c4
    · exact absurd (Int32.toInt_inj.mp (show w.toInt = (0 : Int32).toInt from by have : (0 : Int32).toInt = 0 := (by decide); omega)) hz
    · omega
  · rw [hz]; decide +kernel
theorem own_fb {xs : List Int64} {n : Nat} (h : xs.length = n) : own_fbytes xs = (((2 : Int64) * ((Int32.ofNat n).toInt64)) * (8 : Int64)) := by subst h; rfl
theorem own_mx1 {w : Int32} (h : ¬ w = (0 : Int32)) (b : 0 ≤ w.toInt) : own_fmax w (1 : Int32) = w := by
  show (if w < (1 : Int32) then (1 : Int32) else w) = w
  rw [if_neg]
  intro q; rw [Int32.lt_iff_toInt_lt] at q
  have o : (1 : Int32).toInt = 1 := by decide
  exact h (Int32.toInt_inj.mp (show w.toInt = (0 : Int32).toInt from by have : (0 : Int32).toInt = 0 := (by decide); omega))
theorem own_pd_I_V_240 : parseMethodDescriptor "(I)V" = some ⟨[.int], none⟩ := by decide +kernel
theorem own_pd_J_155 : parseMethodDescriptor "()J" = some ⟨[], some .long⟩ := by decide +kernel
theorem own_pd_I_J_228 : parseMethodDescriptor "(I)J" = some ⟨[.int], some .long⟩ := by decide +kernel
theorem own_pd_JJ_V_315 : parseMethodDescriptor "(JJ)V" = some ⟨[.long, .long], none⟩ := by decide +kernel
theorem own_ef0 (m : MethodId) (p0 : Int32) (q1 : Int64) (q2 : Int64) (p3 : Int32) : entryFrame m #[(.int p0), (.long q1), (.long q2), (.int p3)] maxLocals = mkF m 0 #[.val (.int p0), .val (.long q1), .second, .val (.long q2), .second, .val (.int p3), .unset, .unset, .unset, .unset, .unset, .unset] [] := by first | (simp [entryFrame, mkF, argsToLocals, Value.category, maxLocals]; done) | rfl
set_option maxRecDepth 65536 in
set_option maxHeartbeats 40000000 in
theorem own_m0 (l : Launch) (Z : State) (a0 : Array Value) (hw : ∀ d ∈ tables_1, d.before a0 Z = true) (ws : List Jvm.Cond) (p0 : Int32) (q1 : Int64) (q2 : Int64) (p3 : Int32)  (h0 : Heap) (n0 : Nat) (Z0 : n0 ≤ h0.size)  :
    own_Met l Z x code maxLocals ret ws room_1 #[(.int p0), (.long q1), (.long q2), (.int p3)] h0 (fun (v : Option Value) (h : Heap) (L : List Loc) => v = some (.int 1) ∧ Fr n0 L) := by
  refine own_enter (plainFor_of_name own_pn_com_example_defnot_defnot_CuckooStashBytesPinLaw) ?_
  intro p e s m below meth c s₁ P hx hby hml hrt hlk hown hnm hZ X0 e0 hP
  have N0 := Fr.nil n0
  have K0 := Keep.refl h0 []
  have hml' : c.maxLocals = 12 := hml
  refine own_cast (own_ef0 m p0 q1 q2 p3) ?_
  show own_End p e below P (s₁.setTop (mkF m 0 #[.val (.int p0), .val (.long q1), .second, .val (.long q2), .second, .val (.int p3), .unset, .unset, .unset, .unset, .unset, .unset] []))
  refine own_st (fun _ => XS.iloadN X0.here hx rfl (hb hby at_0) rfl) ?_
  show own_End p e below P (s₁.setTop (mkF m 1 #[.val (.int p0), .val (.long q1), .second, .val (.long q2), .second, .val (.int p3), .unset, .unset, .unset, .unset, .unset, .unset] [(.int p0)]))
  refine own_st (fun _ => XS.sipush X0.here hx rfl (hb hby at_1)) ?_
  show own_End p e below P (s₁.setTop (mkF m 4 #[.val (.int p0), .val (.long q1), .second, .val (.long q2), .second, .val (.int p3), .unset, .unset, .unset, .unset, .unset, .unset] [(.int (16383 : Int32)), (.int p0)]))
  refine own_st (fun _ => XS.iand X0.here hx rfl (hb hby at_4) rfl) ?_
  show own_End p e below P (s₁.setTop (mkF m 5 #[.val (.int p0), .val (.long q1), .second, .val (.long q2), .second, .val (.int p3), .unset, .unset, .unset, .unset, .unset, .unset] [(.int (p0 &&& (16383 : Int32)))]))
  obtain ⟨cq, hE, hcp, hc2, h16, hz0, hm⟩ := own_facts p0
  obtain ⟨n_, e_n⟩ : ∃ z : Int32, z = (p0 &&& (16383 : Int32)) := ⟨_, rfl⟩
  rw [← e_n] at hE hcp h16 hz0 hm ⊢
  show own_End p e below P (s₁.setTop (mkF m 5 #[.val (.int p0), .val (.long q1), .second, .val (.long q2), .second, .val (.int p3), .unset, .unset, .unset, .unset, .unset, .unset] [(.int n_)]))
  by_cases hz : n_ = (0 : Int32)
  · show own_End p e below P (s₁.setTop (mkF m 5 #[.val (.int p0), .val (.long q1), .second, .val (.long q2), .second, .val (.int p3), .unset, .unset, .unset, .unset, .unset, .unset] [(.int n_)]))
    obtain rfl := hz0 hz
    refine own_st (fun _ => XS.istore X0.here hx rfl (hb hby at_5) rfl (l' := #[.val (.int p0), .val (.long q1), .second, .val (.long q2), .second, .val (.int p3), .val (.int n_), .unset, .unset, .unset, .unset, .unset]) rfl) ?_
    show own_End p e below P (s₁.setTop (mkF m 7 #[.val (.int p0), .val (.long q1), .second, .val (.long q2), .second, .val (.int p3), .val (.int n_), .unset, .unset, .unset, .unset, .unset] []))
    refine own_st (fun _ => XS.iload X0.here hx rfl (hb hby at_7) rfl) ?_
    show own_End p e below P (s₁.setTop (mkF m 9 #[.val (.int p0), .val (.long q1), .second, .val (.long q2), .second, .val (.int p3), .val (.int n_), .unset, .unset, .unset, .unset, .unset] [(.int p3)]))
    refine own_st (fun _ => XS.iconst X0.here hx rfl (hb hby at_9)) ?_
    show own_End p e below P (s₁.setTop (mkF m 10 #[.val (.int p0), .val (.long q1), .second, .val (.long q2), .second, .val (.int p3), .val (.int n_), .unset, .unset, .unset, .unset, .unset] [(.int (1 : Int32)), (.int p3)]))
    refine own_st (fun _ => XS.iand X0.here hx rfl (hb hby at_10) rfl) ?_
    show own_End p e below P (s₁.setTop (mkF m 11 #[.val (.int p0), .val (.long q1), .second, .val (.long q2), .second, .val (.int p3), .val (.int n_), .unset, .unset, .unset, .unset, .unset] [(.int (p3 &&& (1 : Int32)))]))
    by_cases hc1 : (p3 &&& (1 : Int32)) = (0 : Int32)
    · refine own_st (fun _ => XS.ifYes X0.here hx rfl (pc0 := 11) (pc' := 18) rfl (hb hby at_11) rfl ((if0 _ _).trans (teq hc1).1) (by decide) (by decide)) ?_
      show own_End p e below P (s₁.setTop (mkF m 18 #[.val (.int p0), .val (.long q1), .second, .val (.long q2), .second, .val (.int p3), .val (.int n_), .unset, .unset, .unset, .unset, .unset] []))
      refine own_st (fun _ => XS.iconst X0.here hx rfl (hb hby at_18)) ?_
      show own_End p e below P (s₁.setTop (mkF m 19 #[.val (.int p0), .val (.long q1), .second, .val (.long q2), .second, .val (.int p3), .val (.int n_), .unset, .unset, .unset, .unset, .unset] [(.int (0 : Int32))]))
      refine own_st (fun _ => XS.istore X0.here hx rfl (hb hby at_19) rfl (l' := #[.val (.int p0), .val (.long q1), .second, .val (.long q2), .second, .val (.int p3), .val (.int n_), .val (.int (0 : Int32)), .unset, .unset, .unset, .unset]) rfl) ?_
      show own_End p e below P (s₁.setTop (mkF m 21 #[.val (.int p0), .val (.long q1), .second, .val (.long q2), .second, .val (.int p3), .val (.int n_), .val (.int (0 : Int32)), .unset, .unset, .unset, .unset] []))
      refine own_st (fun _ => XS.lloadN X0.here hx rfl (hb hby at_21) rfl) ?_
      show own_End p e below P (s₁.setTop (mkF m 22 #[.val (.int p0), .val (.long q1), .second, .val (.long q2), .second, .val (.int p3), .val (.int n_), .val (.int (0 : Int32)), .unset, .unset, .unset, .unset] [(.long q1)]))
      refine own_st (fun _ => XS.lconst X0.here hx rfl (hb hby at_22)) ?_
      show own_End p e below P (s₁.setTop (mkF m 23 #[.val (.int p0), .val (.long q1), .second, .val (.long q2), .second, .val (.int p3), .val (.int n_), .val (.int (0 : Int32)), .unset, .unset, .unset, .unset] [(.long (0 : Int64)), (.long q1)]))
      refine own_st (fun _ => XS.lcmp X0.here hx rfl (hb hby at_23) rfl) ?_
      show own_End p e below P (s₁.setTop (mkF m 24 #[.val (.int p0), .val (.long q1), .second, .val (.long q2), .second, .val (.int p3), .val (.int n_), .val (.int (0 : Int32)), .unset, .unset, .unset, .unset] [(.int (lcmpW q1 (0 : Int64)))]))
      have J4 : ∀ u3 : Int64, u3 = (if q1 = (0 : Int64) then (1 : Int64) else q1) → own_End p e below P (s₁.setTop (mkF m 32 #[.val (.int p0), .val (.long q1), .second, .val (.long q2), .second, .val (.int p3), .val (.int n_), .val (.int (0 : Int32)), .unset, .unset, .unset, .unset] [(.long u3)])) := by
        intro u3 e_u3
        refine own_st (fun _ => XS.lstore X0.here hx rfl (hb hby at_32) rfl (l' := #[.val (.int p0), .val (.long q1), .second, .val (.long q2), .second, .val (.int p3), .val (.int n_), .val (.int (0 : Int32)), .val (.long u3), .second, .unset, .unset]) rfl) ?_
        show own_End p e below P (s₁.setTop (mkF m 34 #[.val (.int p0), .val (.long q1), .second, .val (.long q2), .second, .val (.int p3), .val (.int n_), .val (.int (0 : Int32)), .val (.long u3), .second, .unset, .unset] []))
        obtain ⟨T5, h5, X5, e5, E5, A5, D5, -, st5⟩ := newO X0 hx hZ hown (hw _ (List.mem_of_getElem? (i := 0) rfl)) (hw _ (List.mem_of_getElem? (i := 1) rfl)) (hw _ (List.mem_of_getElem? (i := 2) rfl)) e0 (g := (mkF m 34 #[.val (.int p0), .val (.long q1), .second, .val (.long q2), .second, .val (.int p3), .val (.int n_), .val (.int (0 : Int32)), .val (.long u3), .second, .unset, .unset] [])) rfl (hb hby at_34) (by decide) (by decide)
        obtain ⟨b5, g5⟩ : ∃ z, z = h0.size := ⟨_, rfl⟩
        rw [← g5] at A5 D5 st5
        have low_b5 : n0 ≤ b5 := Nat.le_trans (Nat.le_trans Z0 K0.1) (Nat.le_of_eq g5.symm)
        have sz_b5 : h0.size ≤ b5 := Nat.le_trans K0.1 (Nat.le_of_eq g5.symm)
        have K5 := Keep.ext K0 E5
        have F_b5_entries : Fld Z h5 b5 "com/example/defnot/defnot/CuckooStash" "entries" "[J" .null := D5 (Or.inl (hw _ (List.mem_of_getElem? (i := 16) rfl))) (ty := (.array .long)) (by decide)
        have F_b5_counts : Fld Z h5 b5 "com/example/defnot/defnot/CuckooStash" "counts" "[J" .null := D5 (Or.inl (hw _ (List.mem_of_getElem? (i := 18) rfl))) (ty := (.array .long)) (by decide)
        have F_b5_size : Fld Z h5 b5 "com/example/defnot/defnot/CuckooStash" "size" "I" (.int (0 : Int32)) := D5 (Or.inl (hw _ (List.mem_of_getElem? (i := 36) rfl))) (ty := .int) (by decide)
        have F_b5_copies : Fld Z h5 b5 "com/example/defnot/defnot/CuckooStash" "copies" "J" (.long (0 : Int64)) := D5 (Or.inl (hw _ (List.mem_of_getElem? (i := 48) rfl))) (ty := .long) (by decide)
        refine own_st (fun _ => st5 _) ?_
        show own_End p e below P (T5.setTop (mkF m 37 #[.val (.int p0), .val (.long q1), .second, .val (.long q2), .second, .val (.int p3), .val (.int n_), .val (.int (0 : Int32)), .val (.long u3), .second, .unset, .unset] [(.ref b5)]))
        refine own_st (fun _ => XS.dup X5.here hx rfl (hb hby at_37) rfl rfl) ?_
        show own_End p e below P (T5.setTop (mkF m 38 #[.val (.int p0), .val (.long q1), .second, .val (.long q2), .second, .val (.int p3), .val (.int n_), .val (.int (0 : Int32)), .val (.long u3), .second, .unset, .unset] [(.ref b5), (.ref b5)]))
        refine own_st (fun _ => XS.iload X5.here hx rfl (hb hby at_38) rfl) ?_
        show own_End p e below P (T5.setTop (mkF m 40 #[.val (.int p0), .val (.long q1), .second, .val (.long q2), .second, .val (.int p3), .val (.int n_), .val (.int (0 : Int32)), .val (.long u3), .second, .unset, .unset] [(.int n_), (.ref b5), (.ref b5)]))
        refine own_callI X5 hx hZ (y := (⟨"com/example/defnot/defnot/CuckooStash", "<init>", "(I)V"⟩ : MethodName)) rfl hown (hw _ (List.mem_of_getElem? (i := 3) rfl)) (hw _ (List.mem_of_getElem? (i := 4) rfl)) (hw _ (List.mem_of_getElem? (i := 2) rfl)) (hw _ (List.mem_of_getElem? (i := 5) rfl)) (by decide) (own_minit l Z a0 hw [] b5 n_ 0 h5 n0 (Nat.le_trans Z0 K5.1) A5 F_b5_entries F_b5_counts F_b5_size F_b5_copies low_b5 hm hcp hc2) 1 (by decide) (by decide) e5 (by decide) (by decide) (g := (mkF m 40 #[.val (.int p0), .val (.long q1), .second, .val (.long q2), .second, .val (.int p3), .val (.int n_), .val (.int (0 : Int32)), .val (.long u3), .second, .unset, .unset] [(.int n_), (.ref b5), (.ref b5)])) rfl (by rw [hml']; rfl) (a := b5) (argsL := [(.int n_)]) (rest := [(.ref b5)]) rfl (lenOf own_pd_I_V_240 rfl) rfl (by show 2 * 0 + _ ≤ _; exact Nat.le_of_eq rfl) (hb hby at_40) (fun r6 T6 L6 X6 hQ6 => ?_)
        obtain ⟨b3_6, b8_6, rfl, Nq6, Kq6, szq_b3_6, low_b3_6, szq_b8_6, low_b8_6, ne_b3_6_b8_6, f0_6, f1_6, f2_6, f3_6, f4_6, f5_6, f6_6⟩ := hQ6
        have N6 := Fr.app N0 Nq6
        have ne7 : b5 ≠ b3_6 := Nat.ne_of_lt (Nat.lt_of_lt_of_le A5.lt szq_b3_6)
        have ne8 : b5 ≠ b8_6 := Nat.ne_of_lt (Nat.lt_of_lt_of_le A5.lt szq_b8_6)
        have sz_b3_6 := Nat.le_trans K5.1 szq_b3_6
        have sz_b8_6 := Nat.le_trans K5.1 szq_b8_6
        have K6 := Keep.trans K5 Kq6 (allS (Or.inr sz_b5) all0)
        show own_End p e below P (T6.setTop (mkF m 43 #[.val (.int p0), .val (.long q1), .second, .val (.long q2), .second, .val (.int p3), .val (.int n_), .val (.int (0 : Int32)), .val (.long u3), .second, .unset, .unset] [(.ref b5)]))
        refine own_st (fun _ => XS.astore X6.here hx rfl (hb hby at_43) rfl rfl (l' := #[.val (.int p0), .val (.long q1), .second, .val (.long q2), .second, .val (.int p3), .val (.int n_), .val (.int (0 : Int32)), .val (.long u3), .second, .val (.ref b5), .unset]) rfl) ?_
        show own_End p e below P (T6.setTop (mkF m 45 #[.val (.int p0), .val (.long q1), .second, .val (.long q2), .second, .val (.int p3), .val (.int n_), .val (.int (0 : Int32)), .val (.long u3), .second, .val (.ref b5), .unset] []))
        refine own_st (fun _ => XS.iload X6.here hx rfl (hb hby at_45) rfl) ?_
        show own_End p e below P (T6.setTop (mkF m 47 #[.val (.int p0), .val (.long q1), .second, .val (.long q2), .second, .val (.int p3), .val (.int n_), .val (.int (0 : Int32)), .val (.long u3), .second, .val (.ref b5), .unset] [(.int (0 : Int32))]))
        refine own_st (fun _ => XS.ifYes X6.here hx rfl (pc0 := 47) (pc' := 58) rfl (hb hby at_47) rfl ((if0 _ _).trans (teq (by decide : (0 : Int32) = (0 : Int32))).1) (by decide) (by decide)) ?_
        show own_End p e below P (T6.setTop (mkF m 58 #[.val (.int p0), .val (.long q1), .second, .val (.long q2), .second, .val (.int p3), .val (.int n_), .val (.int (0 : Int32)), .val (.long u3), .second, .val (.ref b5), .unset] []))
        refine own_st (fun _ => XS.iload X6.here hx rfl (hb hby at_58) rfl) ?_
        show own_End p e below P (T6.setTop (mkF m 60 #[.val (.int p0), .val (.long q1), .second, .val (.long q2), .second, .val (.int p3), .val (.int n_), .val (.int (0 : Int32)), .val (.long u3), .second, .val (.ref b5), .unset] [(.int (0 : Int32))]))
        refine own_st (fun _ => XS.ifYes X6.here hx rfl (pc0 := 60) (pc' := 72) rfl (hb hby at_60) rfl ((if0 _ _).trans (teq (by decide : (0 : Int32) = (0 : Int32))).1) (by decide) (by decide)) ?_
        show own_End p e below P (T6.setTop (mkF m 72 #[.val (.int p0), .val (.long q1), .second, .val (.long q2), .second, .val (.int p3), .val (.int n_), .val (.int (0 : Int32)), .val (.long u3), .second, .val (.ref b5), .unset] []))
        refine own_st (fun _ => XS.iload X6.here hx rfl (hb hby at_72) rfl) ?_
        show own_End p e below P (T6.setTop (mkF m 74 #[.val (.int p0), .val (.long q1), .second, .val (.long q2), .second, .val (.int p3), .val (.int n_), .val (.int (0 : Int32)), .val (.long u3), .second, .val (.ref b5), .unset] [(.int n_)]))
        refine own_st (fun _ => XS.istore X6.here hx rfl (hb hby at_74) rfl (l' := #[.val (.int p0), .val (.long q1), .second, .val (.long q2), .second, .val (.int p3), .val (.int n_), .val (.int (0 : Int32)), .val (.long u3), .second, .val (.ref b5), .val (.int n_)]) rfl) ?_
        show own_End p e below P (T6.setTop (mkF m 76 #[.val (.int p0), .val (.long q1), .second, .val (.long q2), .second, .val (.int p3), .val (.int n_), .val (.int (0 : Int32)), .val (.long u3), .second, .val (.ref b5), .val (.int n_)] []))
        refine own_st (fun _ => XS.aload X6.here hx rfl (hb hby at_76) rfl rfl) ?_
        show own_End p e below P (T6.setTop (mkF m 78 #[.val (.int p0), .val (.long q1), .second, .val (.long q2), .second, .val (.int p3), .val (.int n_), .val (.int (0 : Int32)), .val (.long u3), .second, .val (.ref b5), .val (.int n_)] [(.ref b5)]))
        refine own_callV X6 hx hZ (y := (⟨"com/example/defnot/defnot/CuckooStash", "bytes", "()J"⟩ : MethodName)) (z := (⟨"com/example/defnot/defnot/CuckooStash", "bytes", "()J"⟩ : MethodName)) hown (hw _ (List.mem_of_getElem? (i := 19) rfl)) (hw _ (List.mem_of_getElem? (i := 20) rfl)) (notFace_of_selects (args := #[]) (mvT hZ (hw _ (List.mem_of_getElem? (i := 22) rfl)))) (hw _ (List.mem_of_getElem? (i := 22) rfl)) (hw _ (List.mem_of_getElem? (i := 21) rfl)) (hw _ (List.mem_of_getElem? (i := 2) rfl)) (hw _ (List.mem_of_getElem? (i := 23) rfl)) (by decide) f0_6 (own_mbytes l Z a0 hw [] b5 (List.replicate 0 (0 : Int64)) b3_6 T6.heap n0 (Nat.le_trans Z0 K6.1) f1_6 f5_6) 0 (by decide) (by decide) rfl (by decide) (by decide) (g := (mkF m 78 #[.val (.int p0), .val (.long q1), .second, .val (.long q2), .second, .val (.int p3), .val (.int n_), .val (.int (0 : Int32)), .val (.long u3), .second, .val (.ref b5), .val (.int n_)] [(.ref b5)])) rfl (by rw [hml']; rfl) (argsL := []) (rest := []) rfl (lenOf own_pd_J_155 rfl) rfl (by show 2 * 0 + _ ≤ _; exact Nat.le_of_eq rfl) (hb hby at_78) (fun r9 T9 L9 X9 hQ9 => ?_)
        obtain ⟨rfl, Nq9, eq9⟩ := hQ9
        have N9 := Fr.app N6 Nq9
        show own_End p e below P (T9.setTop (mkF m 81 #[.val (.int p0), .val (.long q1), .second, .val (.long q2), .second, .val (.int p3), .val (.int n_), .val (.int (0 : Int32)), .val (.long u3), .second, .val (.ref b5), .val (.int n_)] [(.long (own_fbytes (List.replicate 0 (0 : Int64))))]))
        refine own_st (fun _ => XS.iload X9.here hx rfl (hb hby at_81) rfl) ?_
        show own_End p e below P (T9.setTop (mkF m 83 #[.val (.int p0), .val (.long q1), .second, .val (.long q2), .second, .val (.int p3), .val (.int n_), .val (.int (0 : Int32)), .val (.long u3), .second, .val (.ref b5), .val (.int n_)] [(.int n_), (.long (own_fbytes (List.replicate 0 (0 : Int64))))]))
        refine own_callS X9 hx hZ (y := (⟨"com/example/defnot/defnot/CuckooStashBytesPinLaw", "expected", "(I)J"⟩ : MethodName)) hown (hw _ (List.mem_of_getElem? (i := 26) rfl)) (hw _ (List.mem_of_getElem? (i := 27) rfl)) (hw _ (List.mem_of_getElem? (i := 28) rfl)) (hw _ (List.mem_of_getElem? (i := 29) rfl)) (by decide) (own_mexp l Z a0 hw [] n_  T6.heap n0 (Nat.le_trans Z0 K6.1) ) 2 (by decide) (by decide) eq9 (by decide) (by decide) (g := (mkF m 83 #[.val (.int p0), .val (.long q1), .second, .val (.long q2), .second, .val (.int p3), .val (.int n_), .val (.int (0 : Int32)), .val (.long u3), .second, .val (.ref b5), .val (.int n_)] [(.int n_), (.long (own_fbytes (List.replicate 0 (0 : Int64))))])) rfl (by rw [hml']; rfl) (argsL := [(.int n_)]) (rest := [(.long (own_fbytes (List.replicate 0 (0 : Int64))))]) rfl (lenOf own_pd_I_J_228 rfl) rfl (by show 2 * 0 + _ ≤ _; exact Nat.le_of_eq rfl) (hb hby at_83) (fun r10 T10 L10 X10 hQ10 => ?_)
        obtain ⟨rfl, Nq10, eq10⟩ := hQ10
        have N10 := Fr.app N9 Nq10
        show own_End p e below P (T10.setTop (mkF m 86 #[.val (.int p0), .val (.long q1), .second, .val (.long q2), .second, .val (.int p3), .val (.int n_), .val (.int (0 : Int32)), .val (.long u3), .second, .val (.ref b5), .val (.int n_)] [(.long (own_fexp n_)), (.long (own_fbytes (List.replicate 0 (0 : Int64))))]))
        refine own_st (fun _ => XS.lcmp X10.here hx rfl (hb hby at_86) rfl) ?_
        show own_End p e below P (T10.setTop (mkF m 87 #[.val (.int p0), .val (.long q1), .second, .val (.long q2), .second, .val (.int p3), .val (.int n_), .val (.int (0 : Int32)), .val (.long u3), .second, .val (.ref b5), .val (.int n_)] [(.int (lcmpW (own_fbytes (List.replicate 0 (0 : Int64))) (own_fexp n_)))]))
        have hd11 : (own_fbytes (List.replicate 0 (0 : Int64))) = (own_fexp n_) := by rw [hE]; exact own_fb (by rw [List.length_replicate])
        refine own_st (fun _ => XS.ifNo X10.here hx rfl (hb hby at_87) rfl ((if0 _ _).trans (teq (own_eq.mpr hd11)).2)) ?_
        show own_End p e below P (T10.setTop (mkF m 90 #[.val (.int p0), .val (.long q1), .second, .val (.long q2), .second, .val (.int p3), .val (.int n_), .val (.int (0 : Int32)), .val (.long u3), .second, .val (.ref b5), .val (.int n_)] []))
        refine own_st (fun _ => XS.iconst X10.here hx rfl (hb hby at_90)) ?_
        show own_End p e below P (T10.setTop (mkF m 91 #[.val (.int p0), .val (.long q1), .second, .val (.long q2), .second, .val (.int p3), .val (.int n_), .val (.int (0 : Int32)), .val (.long u3), .second, .val (.ref b5), .val (.int n_)] [(.int (1 : Int32))]))
        refine own_st (fun _ => XS.goto X10.here hx rfl (pc0 := 91) (pc' := 95) rfl (hb hby at_91) (by decide) (by decide)) ?_
        show own_End p e below P (T10.setTop (mkF m 95 #[.val (.int p0), .val (.long q1), .second, .val (.long q2), .second, .val (.int p3), .val (.int n_), .val (.int (0 : Int32)), .val (.long u3), .second, .val (.ref b5), .val (.int n_)] [(.int (1 : Int32))]))
        exact own_retN X10 hx hlk hP (t := .boolean) (by simp) hrt (hb hby at_95) (by decide) (by decide) ⟨rfl, N10⟩
      by_cases hc2 : q1 = (0 : Int64)
      · refine own_st (fun _ => XS.ifNo X0.here hx rfl (hb hby at_24) rfl ((if0 _ _).trans (teq (own_eq.mpr hc2)).2)) ?_
        show own_End p e below P (s₁.setTop (mkF m 27 #[.val (.int p0), .val (.long q1), .second, .val (.long q2), .second, .val (.int p3), .val (.int n_), .val (.int (0 : Int32)), .unset, .unset, .unset, .unset] []))
        refine own_st (fun _ => XS.lconst X0.here hx rfl (hb hby at_27)) ?_
        show own_End p e below P (s₁.setTop (mkF m 28 #[.val (.int p0), .val (.long q1), .second, .val (.long q2), .second, .val (.int p3), .val (.int n_), .val (.int (0 : Int32)), .unset, .unset, .unset, .unset] [(.long (1 : Int64))]))
        refine own_st (fun _ => XS.goto X0.here hx rfl (pc0 := 28) (pc' := 32) rfl (hb hby at_28) (by decide) (by decide)) ?_
        show own_End p e below P (s₁.setTop (mkF m 32 #[.val (.int p0), .val (.long q1), .second, .val (.long q2), .second, .val (.int p3), .val (.int n_), .val (.int (0 : Int32)), .unset, .unset, .unset, .unset] [(.long (1 : Int64))]))
        exact J4 _ ((if_pos hc2).trans (rfl)).symm
      · refine own_st (fun _ => XS.ifYes X0.here hx rfl (pc0 := 24) (pc' := 31) rfl (hb hby at_24) rfl ((if0 _ _).trans (feq (mt own_eq.mp hc2)).2) (by decide) (by decide)) ?_
        show own_End p e below P (s₁.setTop (mkF m 31 #[.val (.int p0), .val (.long q1), .second, .val (.long q2), .second, .val (.int p3), .val (.int n_), .val (.int (0 : Int32)), .unset, .unset, .unset, .unset] []))
        refine own_st (fun _ => XS.lloadN X0.here hx rfl (hb hby at_31) rfl) ?_
        show own_End p e below P (s₁.setTop (mkF m 32 #[.val (.int p0), .val (.long q1), .second, .val (.long q2), .second, .val (.int p3), .val (.int n_), .val (.int (0 : Int32)), .unset, .unset, .unset, .unset] [(.long q1)]))
        exact J4 _ ((if_neg hc2).trans (rfl)).symm
    · refine own_st (fun _ => XS.ifNo X0.here hx rfl (hb hby at_11) rfl ((if0 _ _).trans (feq hc1).1)) ?_
      show own_End p e below P (s₁.setTop (mkF m 14 #[.val (.int p0), .val (.long q1), .second, .val (.long q2), .second, .val (.int p3), .val (.int n_), .unset, .unset, .unset, .unset, .unset] []))
      refine own_st (fun _ => XS.iconst X0.here hx rfl (hb hby at_14)) ?_
      show own_End p e below P (s₁.setTop (mkF m 15 #[.val (.int p0), .val (.long q1), .second, .val (.long q2), .second, .val (.int p3), .val (.int n_), .unset, .unset, .unset, .unset, .unset] [(.int (1 : Int32))]))
      refine own_st (fun _ => XS.goto X0.here hx rfl (pc0 := 15) (pc' := 19) rfl (hb hby at_15) (by decide) (by decide)) ?_
      show own_End p e below P (s₁.setTop (mkF m 19 #[.val (.int p0), .val (.long q1), .second, .val (.long q2), .second, .val (.int p3), .val (.int n_), .unset, .unset, .unset, .unset, .unset] [(.int (1 : Int32))]))
      refine own_st (fun _ => XS.istore X0.here hx rfl (hb hby at_19) rfl (l' := #[.val (.int p0), .val (.long q1), .second, .val (.long q2), .second, .val (.int p3), .val (.int n_), .val (.int (1 : Int32)), .unset, .unset, .unset, .unset]) rfl) ?_
      show own_End p e below P (s₁.setTop (mkF m 21 #[.val (.int p0), .val (.long q1), .second, .val (.long q2), .second, .val (.int p3), .val (.int n_), .val (.int (1 : Int32)), .unset, .unset, .unset, .unset] []))
      refine own_st (fun _ => XS.lloadN X0.here hx rfl (hb hby at_21) rfl) ?_
      show own_End p e below P (s₁.setTop (mkF m 22 #[.val (.int p0), .val (.long q1), .second, .val (.long q2), .second, .val (.int p3), .val (.int n_), .val (.int (1 : Int32)), .unset, .unset, .unset, .unset] [(.long q1)]))
      refine own_st (fun _ => XS.lconst X0.here hx rfl (hb hby at_22)) ?_
      show own_End p e below P (s₁.setTop (mkF m 23 #[.val (.int p0), .val (.long q1), .second, .val (.long q2), .second, .val (.int p3), .val (.int n_), .val (.int (1 : Int32)), .unset, .unset, .unset, .unset] [(.long (0 : Int64)), (.long q1)]))
      refine own_st (fun _ => XS.lcmp X0.here hx rfl (hb hby at_23) rfl) ?_
      show own_End p e below P (s₁.setTop (mkF m 24 #[.val (.int p0), .val (.long q1), .second, .val (.long q2), .second, .val (.int p3), .val (.int n_), .val (.int (1 : Int32)), .unset, .unset, .unset, .unset] [(.int (lcmpW q1 (0 : Int64)))]))
      have J14 : ∀ u13 : Int64, u13 = (if q1 = (0 : Int64) then (1 : Int64) else q1) → own_End p e below P (s₁.setTop (mkF m 32 #[.val (.int p0), .val (.long q1), .second, .val (.long q2), .second, .val (.int p3), .val (.int n_), .val (.int (1 : Int32)), .unset, .unset, .unset, .unset] [(.long u13)])) := by
        intro u13 e_u13
        refine own_st (fun _ => XS.lstore X0.here hx rfl (hb hby at_32) rfl (l' := #[.val (.int p0), .val (.long q1), .second, .val (.long q2), .second, .val (.int p3), .val (.int n_), .val (.int (1 : Int32)), .val (.long u13), .second, .unset, .unset]) rfl) ?_
        show own_End p e below P (s₁.setTop (mkF m 34 #[.val (.int p0), .val (.long q1), .second, .val (.long q2), .second, .val (.int p3), .val (.int n_), .val (.int (1 : Int32)), .val (.long u13), .second, .unset, .unset] []))
        obtain ⟨T15, h15, X15, e15, E15, A15, D15, -, st15⟩ := newO X0 hx hZ hown (hw _ (List.mem_of_getElem? (i := 0) rfl)) (hw _ (List.mem_of_getElem? (i := 1) rfl)) (hw _ (List.mem_of_getElem? (i := 2) rfl)) e0 (g := (mkF m 34 #[.val (.int p0), .val (.long q1), .second, .val (.long q2), .second, .val (.int p3), .val (.int n_), .val (.int (1 : Int32)), .val (.long u13), .second, .unset, .unset] [])) rfl (hb hby at_34) (by decide) (by decide)
        obtain ⟨b15, g15⟩ : ∃ z, z = h0.size := ⟨_, rfl⟩
        rw [← g15] at A15 D15 st15
        have low_b15 : n0 ≤ b15 := Nat.le_trans (Nat.le_trans Z0 K0.1) (Nat.le_of_eq g15.symm)
        have sz_b15 : h0.size ≤ b15 := Nat.le_trans K0.1 (Nat.le_of_eq g15.symm)
        have K15 := Keep.ext K0 E15
        have F_b15_entries : Fld Z h15 b15 "com/example/defnot/defnot/CuckooStash" "entries" "[J" .null := D15 (Or.inl (hw _ (List.mem_of_getElem? (i := 16) rfl))) (ty := (.array .long)) (by decide)
        have F_b15_counts : Fld Z h15 b15 "com/example/defnot/defnot/CuckooStash" "counts" "[J" .null := D15 (Or.inl (hw _ (List.mem_of_getElem? (i := 18) rfl))) (ty := (.array .long)) (by decide)
        have F_b15_size : Fld Z h15 b15 "com/example/defnot/defnot/CuckooStash" "size" "I" (.int (0 : Int32)) := D15 (Or.inl (hw _ (List.mem_of_getElem? (i := 36) rfl))) (ty := .int) (by decide)
        have F_b15_copies : Fld Z h15 b15 "com/example/defnot/defnot/CuckooStash" "copies" "J" (.long (0 : Int64)) := D15 (Or.inl (hw _ (List.mem_of_getElem? (i := 48) rfl))) (ty := .long) (by decide)
        refine own_st (fun _ => st15 _) ?_
        show own_End p e below P (T15.setTop (mkF m 37 #[.val (.int p0), .val (.long q1), .second, .val (.long q2), .second, .val (.int p3), .val (.int n_), .val (.int (1 : Int32)), .val (.long u13), .second, .unset, .unset] [(.ref b15)]))
        refine own_st (fun _ => XS.dup X15.here hx rfl (hb hby at_37) rfl rfl) ?_
        show own_End p e below P (T15.setTop (mkF m 38 #[.val (.int p0), .val (.long q1), .second, .val (.long q2), .second, .val (.int p3), .val (.int n_), .val (.int (1 : Int32)), .val (.long u13), .second, .unset, .unset] [(.ref b15), (.ref b15)]))
        refine own_st (fun _ => XS.iload X15.here hx rfl (hb hby at_38) rfl) ?_
        show own_End p e below P (T15.setTop (mkF m 40 #[.val (.int p0), .val (.long q1), .second, .val (.long q2), .second, .val (.int p3), .val (.int n_), .val (.int (1 : Int32)), .val (.long u13), .second, .unset, .unset] [(.int n_), (.ref b15), (.ref b15)]))
        refine own_callI X15 hx hZ (y := (⟨"com/example/defnot/defnot/CuckooStash", "<init>", "(I)V"⟩ : MethodName)) rfl hown (hw _ (List.mem_of_getElem? (i := 3) rfl)) (hw _ (List.mem_of_getElem? (i := 4) rfl)) (hw _ (List.mem_of_getElem? (i := 2) rfl)) (hw _ (List.mem_of_getElem? (i := 5) rfl)) (by decide) (own_minit l Z a0 hw [] b15 n_ 0 h15 n0 (Nat.le_trans Z0 K15.1) A15 F_b15_entries F_b15_counts F_b15_size F_b15_copies low_b15 hm hcp hc2) 1 (by decide) (by decide) e15 (by decide) (by decide) (g := (mkF m 40 #[.val (.int p0), .val (.long q1), .second, .val (.long q2), .second, .val (.int p3), .val (.int n_), .val (.int (1 : Int32)), .val (.long u13), .second, .unset, .unset] [(.int n_), (.ref b15), (.ref b15)])) rfl (by rw [hml']; rfl) (a := b15) (argsL := [(.int n_)]) (rest := [(.ref b15)]) rfl (lenOf own_pd_I_V_240 rfl) rfl (by show 2 * 0 + _ ≤ _; exact Nat.le_of_eq rfl) (hb hby at_40) (fun r16 T16 L16 X16 hQ16 => ?_)
        obtain ⟨b3_16, b8_16, rfl, Nq16, Kq16, szq_b3_16, low_b3_16, szq_b8_16, low_b8_16, ne_b3_16_b8_16, f0_16, f1_16, f2_16, f3_16, f4_16, f5_16, f6_16⟩ := hQ16
        have N16 := Fr.app N0 Nq16
        have ne17 : b15 ≠ b3_16 := Nat.ne_of_lt (Nat.lt_of_lt_of_le A15.lt szq_b3_16)
        have ne18 : b15 ≠ b8_16 := Nat.ne_of_lt (Nat.lt_of_lt_of_le A15.lt szq_b8_16)
        have sz_b3_16 := Nat.le_trans K15.1 szq_b3_16
        have sz_b8_16 := Nat.le_trans K15.1 szq_b8_16
        have K16 := Keep.trans K15 Kq16 (allS (Or.inr sz_b15) all0)
        show own_End p e below P (T16.setTop (mkF m 43 #[.val (.int p0), .val (.long q1), .second, .val (.long q2), .second, .val (.int p3), .val (.int n_), .val (.int (1 : Int32)), .val (.long u13), .second, .unset, .unset] [(.ref b15)]))
        refine own_st (fun _ => XS.astore X16.here hx rfl (hb hby at_43) rfl rfl (l' := #[.val (.int p0), .val (.long q1), .second, .val (.long q2), .second, .val (.int p3), .val (.int n_), .val (.int (1 : Int32)), .val (.long u13), .second, .val (.ref b15), .unset]) rfl) ?_
        show own_End p e below P (T16.setTop (mkF m 45 #[.val (.int p0), .val (.long q1), .second, .val (.long q2), .second, .val (.int p3), .val (.int n_), .val (.int (1 : Int32)), .val (.long u13), .second, .val (.ref b15), .unset] []))
        refine own_st (fun _ => XS.iload X16.here hx rfl (hb hby at_45) rfl) ?_
        show own_End p e below P (T16.setTop (mkF m 47 #[.val (.int p0), .val (.long q1), .second, .val (.long q2), .second, .val (.int p3), .val (.int n_), .val (.int (1 : Int32)), .val (.long u13), .second, .val (.ref b15), .unset] [(.int (1 : Int32))]))
        refine own_st (fun _ => XS.ifNo X16.here hx rfl (hb hby at_47) rfl ((if0 _ _).trans (feq (by decide : ¬ ((1 : Int32) = (0 : Int32)))).1)) ?_
        show own_End p e below P (T16.setTop (mkF m 50 #[.val (.int p0), .val (.long q1), .second, .val (.long q2), .second, .val (.int p3), .val (.int n_), .val (.int (1 : Int32)), .val (.long u13), .second, .val (.ref b15), .unset] []))
        refine own_st (fun _ => XS.aload X16.here hx rfl (hb hby at_50) rfl rfl) ?_
        show own_End p e below P (T16.setTop (mkF m 52 #[.val (.int p0), .val (.long q1), .second, .val (.long q2), .second, .val (.int p3), .val (.int n_), .val (.int (1 : Int32)), .val (.long u13), .second, .val (.ref b15), .unset] [(.ref b15)]))
        refine own_st (fun _ => XS.lload X16.here hx rfl (hb hby at_52) rfl) ?_
        show own_End p e below P (T16.setTop (mkF m 54 #[.val (.int p0), .val (.long q1), .second, .val (.long q2), .second, .val (.int p3), .val (.int n_), .val (.int (1 : Int32)), .val (.long u13), .second, .val (.ref b15), .unset] [(.long u13), (.ref b15)]))
        refine own_st (fun _ => XS.lloadN X16.here hx rfl (hb hby at_54) rfl) ?_
        show own_End p e below P (T16.setTop (mkF m 55 #[.val (.int p0), .val (.long q1), .second, .val (.long q2), .second, .val (.int p3), .val (.int n_), .val (.int (1 : Int32)), .val (.long u13), .second, .val (.ref b15), .unset] [(.long q2), (.long u13), (.ref b15)]))
        refine own_callV X16 hx hZ (y := (⟨"com/example/defnot/defnot/CuckooStash", "add", "(JJ)V"⟩ : MethodName)) (z := (⟨"com/example/defnot/defnot/CuckooStash", "add", "(JJ)V"⟩ : MethodName)) hown (hw _ (List.mem_of_getElem? (i := 30) rfl)) (hw _ (List.mem_of_getElem? (i := 31) rfl)) (notFace_of_selects (args := #[]) (mvT hZ (hw _ (List.mem_of_getElem? (i := 33) rfl)))) (hw _ (List.mem_of_getElem? (i := 33) rfl)) (hw _ (List.mem_of_getElem? (i := 32) rfl)) (hw _ (List.mem_of_getElem? (i := 2) rfl)) (hw _ (List.mem_of_getElem? (i := 34) rfl)) (by decide) f0_16 (own_maddg l Z a0 hw [] b15 u13 q2 b3_16 b8_16 T16.heap n0 (Nat.le_trans Z0 K16.1) f0_16 f1_16 f2_16 f3_16 f4_16 f5_16 f6_16 low_b15 low_b3_16 low_b8_16 ne17 ne18 ne_b3_16_b8_16) 0 (by decide) (by decide) rfl (by decide) (by decide) (g := (mkF m 55 #[.val (.int p0), .val (.long q1), .second, .val (.long q2), .second, .val (.int p3), .val (.int n_), .val (.int (1 : Int32)), .val (.long u13), .second, .val (.ref b15), .unset] [(.long q2), (.long u13), (.ref b15)])) rfl (by rw [hml']; rfl) (argsL := [(.long u13), (.long q2)]) (rest := []) rfl (lenOf own_pd_JJ_V_315 rfl) rfl (by show 2 * 0 + _ ≤ _; exact Nat.le_of_eq rfl) (hb hby at_55) (fun r19 T19 L19 X19 hQ19 => ?_)
        obtain ⟨b5_4_19, b13_4_19, rfl, Nq19, Kq19, szq_b5_4_19, low_b5_4_19, szq_b13_4_19, low_b13_4_19, ne_b5_4_19_b13_4_19, f0_19, f1_19, f2_19, f3_19, f4_19, f5_19, f6_19, f7_19, f8_19⟩ := hQ19
        have N19 := Fr.app N16 Nq19
        have ne20 : b15 ≠ b5_4_19 := Nat.ne_of_lt (Nat.lt_of_lt_of_le f0_16.lt szq_b5_4_19)
        have ne21 : b15 ≠ b13_4_19 := Nat.ne_of_lt (Nat.lt_of_lt_of_le f0_16.lt szq_b13_4_19)
        have ne22 : b3_16 ≠ b5_4_19 := Nat.ne_of_lt (Nat.lt_of_lt_of_le f5_16.lt szq_b5_4_19)
        have ne23 : b3_16 ≠ b13_4_19 := Nat.ne_of_lt (Nat.lt_of_lt_of_le f5_16.lt szq_b13_4_19)
        have ne24 : b8_16 ≠ b5_4_19 := Nat.ne_of_lt (Nat.lt_of_lt_of_le f6_16.lt szq_b5_4_19)
        have ne25 : b8_16 ≠ b13_4_19 := Nat.ne_of_lt (Nat.lt_of_lt_of_le f6_16.lt szq_b13_4_19)
        have sz_b5_4_19 := Nat.le_trans K16.1 szq_b5_4_19
        have sz_b13_4_19 := Nat.le_trans K16.1 szq_b13_4_19
        have K19 := Keep.trans K16 Kq19 (allS (Or.inr sz_b15) (allS (Or.inr sz_b3_16) (allS (Or.inr sz_b8_16) all0)))
        show own_End p e below P (T19.setTop (mkF m 58 #[.val (.int p0), .val (.long q1), .second, .val (.long q2), .second, .val (.int p3), .val (.int n_), .val (.int (1 : Int32)), .val (.long u13), .second, .val (.ref b15), .unset] []))
        refine own_st (fun _ => XS.iload X19.here hx rfl (hb hby at_58) rfl) ?_
        show own_End p e below P (T19.setTop (mkF m 60 #[.val (.int p0), .val (.long q1), .second, .val (.long q2), .second, .val (.int p3), .val (.int n_), .val (.int (1 : Int32)), .val (.long u13), .second, .val (.ref b15), .unset] [(.int (1 : Int32))]))
        refine own_st (fun _ => XS.ifNo X19.here hx rfl (hb hby at_60) rfl ((if0 _ _).trans (feq (by decide : ¬ ((1 : Int32) = (0 : Int32)))).1)) ?_
        show own_End p e below P (T19.setTop (mkF m 63 #[.val (.int p0), .val (.long q1), .second, .val (.long q2), .second, .val (.int p3), .val (.int n_), .val (.int (1 : Int32)), .val (.long u13), .second, .val (.ref b15), .unset] []))
        refine own_st (fun _ => XS.iload X19.here hx rfl (hb hby at_63) rfl) ?_
        show own_End p e below P (T19.setTop (mkF m 65 #[.val (.int p0), .val (.long q1), .second, .val (.long q2), .second, .val (.int p3), .val (.int n_), .val (.int (1 : Int32)), .val (.long u13), .second, .val (.ref b15), .unset] [(.int n_)]))
        refine own_st (fun _ => XS.iconst X19.here hx rfl (hb hby at_65)) ?_
        show own_End p e below P (T19.setTop (mkF m 66 #[.val (.int p0), .val (.long q1), .second, .val (.long q2), .second, .val (.int p3), .val (.int n_), .val (.int (1 : Int32)), .val (.long u13), .second, .val (.ref b15), .unset] [(.int (1 : Int32)), (.int n_)]))
        refine own_callS X19 hx hZ (y := (⟨"java/lang/Math", "max", "(II)I"⟩ : MethodName)) hown (hw _ (List.mem_of_getElem? (i := 49) rfl)) (hw _ (List.mem_of_getElem? (i := 50) rfl)) (hw _ (List.mem_of_getElem? (i := 51) rfl)) (hw _ (List.mem_of_getElem? (i := 52) rfl)) (by decide) (own_mmax l Z a0 hw [] n_ (1 : Int32)  T19.heap n0 (Nat.le_trans Z0 K19.1) ) 0 (by decide) (by decide) rfl (by decide) (by decide) (g := (mkF m 66 #[.val (.int p0), .val (.long q1), .second, .val (.long q2), .second, .val (.int p3), .val (.int n_), .val (.int (1 : Int32)), .val (.long u13), .second, .val (.ref b15), .unset] [(.int (1 : Int32)), (.int n_)])) rfl (by rw [hml']; rfl) (argsL := [(.int n_), (.int (1 : Int32))]) (rest := []) rfl (lenOf own_pd_II_I_300 rfl) rfl (by show 2 * 0 + _ ≤ _; exact Nat.le_of_eq rfl) (hb hby at_66) (fun r26 T26 L26 X26 hQ26 => ?_)
        obtain ⟨rfl, Nq26, eq26⟩ := hQ26
        have N26 := Fr.app N19 Nq26
        show own_End p e below P (T26.setTop (mkF m 69 #[.val (.int p0), .val (.long q1), .second, .val (.long q2), .second, .val (.int p3), .val (.int n_), .val (.int (1 : Int32)), .val (.long u13), .second, .val (.ref b15), .unset] [(.int (own_fmax n_ (1 : Int32)))]))
        refine own_st (fun _ => XS.goto X26.here hx rfl (pc0 := 69) (pc' := 74) rfl (hb hby at_69) (by decide) (by decide)) ?_
        show own_End p e below P (T26.setTop (mkF m 74 #[.val (.int p0), .val (.long q1), .second, .val (.long q2), .second, .val (.int p3), .val (.int n_), .val (.int (1 : Int32)), .val (.long u13), .second, .val (.ref b15), .unset] [(.int (own_fmax n_ (1 : Int32)))]))
        refine own_st (fun _ => XS.istore X26.here hx rfl (hb hby at_74) rfl (l' := #[.val (.int p0), .val (.long q1), .second, .val (.long q2), .second, .val (.int p3), .val (.int n_), .val (.int (1 : Int32)), .val (.long u13), .second, .val (.ref b15), .val (.int (own_fmax n_ (1 : Int32)))]) rfl) ?_
        show own_End p e below P (T26.setTop (mkF m 76 #[.val (.int p0), .val (.long q1), .second, .val (.long q2), .second, .val (.int p3), .val (.int n_), .val (.int (1 : Int32)), .val (.long u13), .second, .val (.ref b15), .val (.int (own_fmax n_ (1 : Int32)))] []))
        refine own_st (fun _ => XS.aload X26.here hx rfl (hb hby at_76) rfl rfl) ?_
        show own_End p e below P (T26.setTop (mkF m 78 #[.val (.int p0), .val (.long q1), .second, .val (.long q2), .second, .val (.int p3), .val (.int n_), .val (.int (1 : Int32)), .val (.long u13), .second, .val (.ref b15), .val (.int (own_fmax n_ (1 : Int32)))] [(.ref b15)]))
        refine own_callV X26 hx hZ (y := (⟨"com/example/defnot/defnot/CuckooStash", "bytes", "()J"⟩ : MethodName)) (z := (⟨"com/example/defnot/defnot/CuckooStash", "bytes", "()J"⟩ : MethodName)) hown (hw _ (List.mem_of_getElem? (i := 19) rfl)) (hw _ (List.mem_of_getElem? (i := 20) rfl)) (notFace_of_selects (args := #[]) (mvT hZ (hw _ (List.mem_of_getElem? (i := 22) rfl)))) (hw _ (List.mem_of_getElem? (i := 22) rfl)) (hw _ (List.mem_of_getElem? (i := 21) rfl)) (hw _ (List.mem_of_getElem? (i := 2) rfl)) (hw _ (List.mem_of_getElem? (i := 23) rfl)) (by decide) f0_19 (own_mbytes l Z a0 hw [] b15 ((List.replicate 16 (0 : Int64)).set (own_ffind u13 16).toNatClampNeg u13) b5_4_19 T19.heap n0 (Nat.le_trans Z0 K19.1) f1_19 f7_19) 0 (by decide) (by decide) eq26 (by decide) (by decide) (g := (mkF m 78 #[.val (.int p0), .val (.long q1), .second, .val (.long q2), .second, .val (.int p3), .val (.int n_), .val (.int (1 : Int32)), .val (.long u13), .second, .val (.ref b15), .val (.int (own_fmax n_ (1 : Int32)))] [(.ref b15)])) rfl (by rw [hml']; rfl) (argsL := []) (rest := []) rfl (lenOf own_pd_J_155 rfl) rfl (by show 2 * 0 + _ ≤ _; exact Nat.le_of_eq rfl) (hb hby at_78) (fun r27 T27 L27 X27 hQ27 => ?_)
        obtain ⟨rfl, Nq27, eq27⟩ := hQ27
        have N27 := Fr.app N26 Nq27
        show own_End p e below P (T27.setTop (mkF m 81 #[.val (.int p0), .val (.long q1), .second, .val (.long q2), .second, .val (.int p3), .val (.int n_), .val (.int (1 : Int32)), .val (.long u13), .second, .val (.ref b15), .val (.int (own_fmax n_ (1 : Int32)))] [(.long (own_fbytes ((List.replicate 16 (0 : Int64)).set (own_ffind u13 16).toNatClampNeg u13)))]))
        refine own_st (fun _ => XS.iload X27.here hx rfl (hb hby at_81) rfl) ?_
        show own_End p e below P (T27.setTop (mkF m 83 #[.val (.int p0), .val (.long q1), .second, .val (.long q2), .second, .val (.int p3), .val (.int n_), .val (.int (1 : Int32)), .val (.long u13), .second, .val (.ref b15), .val (.int (own_fmax n_ (1 : Int32)))] [(.int (own_fmax n_ (1 : Int32))), (.long (own_fbytes ((List.replicate 16 (0 : Int64)).set (own_ffind u13 16).toNatClampNeg u13)))]))
        refine own_callS X27 hx hZ (y := (⟨"com/example/defnot/defnot/CuckooStashBytesPinLaw", "expected", "(I)J"⟩ : MethodName)) hown (hw _ (List.mem_of_getElem? (i := 26) rfl)) (hw _ (List.mem_of_getElem? (i := 27) rfl)) (hw _ (List.mem_of_getElem? (i := 28) rfl)) (hw _ (List.mem_of_getElem? (i := 29) rfl)) (by decide) (own_mexp l Z a0 hw [] (own_fmax n_ (1 : Int32))  T19.heap n0 (Nat.le_trans Z0 K19.1) ) 2 (by decide) (by decide) eq27 (by decide) (by decide) (g := (mkF m 83 #[.val (.int p0), .val (.long q1), .second, .val (.long q2), .second, .val (.int p3), .val (.int n_), .val (.int (1 : Int32)), .val (.long u13), .second, .val (.ref b15), .val (.int (own_fmax n_ (1 : Int32)))] [(.int (own_fmax n_ (1 : Int32))), (.long (own_fbytes ((List.replicate 16 (0 : Int64)).set (own_ffind u13 16).toNatClampNeg u13)))])) rfl (by rw [hml']; rfl) (argsL := [(.int (own_fmax n_ (1 : Int32)))]) (rest := [(.long (own_fbytes ((List.replicate 16 (0 : Int64)).set (own_ffind u13 16).toNatClampNeg u13)))]) rfl (lenOf own_pd_I_J_228 rfl) rfl (by show 2 * 0 + _ ≤ _; exact Nat.le_of_eq rfl) (hb hby at_83) (fun r28 T28 L28 X28 hQ28 => ?_)
        obtain ⟨rfl, Nq28, eq28⟩ := hQ28
        have N28 := Fr.app N27 Nq28
        show own_End p e below P (T28.setTop (mkF m 86 #[.val (.int p0), .val (.long q1), .second, .val (.long q2), .second, .val (.int p3), .val (.int n_), .val (.int (1 : Int32)), .val (.long u13), .second, .val (.ref b15), .val (.int (own_fmax n_ (1 : Int32)))] [(.long (own_fexp (own_fmax n_ (1 : Int32)))), (.long (own_fbytes ((List.replicate 16 (0 : Int64)).set (own_ffind u13 16).toNatClampNeg u13)))]))
        refine own_st (fun _ => XS.lcmp X28.here hx rfl (hb hby at_86) rfl) ?_
        show own_End p e below P (T28.setTop (mkF m 87 #[.val (.int p0), .val (.long q1), .second, .val (.long q2), .second, .val (.int p3), .val (.int n_), .val (.int (1 : Int32)), .val (.long u13), .second, .val (.ref b15), .val (.int (own_fmax n_ (1 : Int32)))] [(.int (lcmpW (own_fbytes ((List.replicate 16 (0 : Int64)).set (own_ffind u13 16).toNatClampNeg u13)) (own_fexp (own_fmax n_ (1 : Int32)))))]))
        have hd29 : (own_fbytes ((List.replicate 16 (0 : Int64)).set (own_ffind u13 16).toNatClampNeg u13)) = (own_fexp (own_fmax n_ (1 : Int32))) := by rw [own_fb (n := 16) (by rw [List.length_set, List.length_replicate]), hz]; decide +kernel
        refine own_st (fun _ => XS.ifNo X28.here hx rfl (hb hby at_87) rfl ((if0 _ _).trans (teq (own_eq.mpr hd29)).2)) ?_
        show own_End p e below P (T28.setTop (mkF m 90 #[.val (.int p0), .val (.long q1), .second, .val (.long q2), .second, .val (.int p3), .val (.int n_), .val (.int (1 : Int32)), .val (.long u13), .second, .val (.ref b15), .val (.int (own_fmax n_ (1 : Int32)))] []))
        refine own_st (fun _ => XS.iconst X28.here hx rfl (hb hby at_90)) ?_
        show own_End p e below P (T28.setTop (mkF m 91 #[.val (.int p0), .val (.long q1), .second, .val (.long q2), .second, .val (.int p3), .val (.int n_), .val (.int (1 : Int32)), .val (.long u13), .second, .val (.ref b15), .val (.int (own_fmax n_ (1 : Int32)))] [(.int (1 : Int32))]))
        refine own_st (fun _ => XS.goto X28.here hx rfl (pc0 := 91) (pc' := 95) rfl (hb hby at_91) (by decide) (by decide)) ?_
        show own_End p e below P (T28.setTop (mkF m 95 #[.val (.int p0), .val (.long q1), .second, .val (.long q2), .second, .val (.int p3), .val (.int n_), .val (.int (1 : Int32)), .val (.long u13), .second, .val (.ref b15), .val (.int (own_fmax n_ (1 : Int32)))] [(.int (1 : Int32))]))
        exact own_retN X28 hx hlk hP (t := .boolean) (by simp) hrt (hb hby at_95) (by decide) (by decide) ⟨rfl, N28⟩
      by_cases hc12 : q1 = (0 : Int64)
      · refine own_st (fun _ => XS.ifNo X0.here hx rfl (hb hby at_24) rfl ((if0 _ _).trans (teq (own_eq.mpr hc12)).2)) ?_
        show own_End p e below P (s₁.setTop (mkF m 27 #[.val (.int p0), .val (.long q1), .second, .val (.long q2), .second, .val (.int p3), .val (.int n_), .val (.int (1 : Int32)), .unset, .unset, .unset, .unset] []))
        refine own_st (fun _ => XS.lconst X0.here hx rfl (hb hby at_27)) ?_
        show own_End p e below P (s₁.setTop (mkF m 28 #[.val (.int p0), .val (.long q1), .second, .val (.long q2), .second, .val (.int p3), .val (.int n_), .val (.int (1 : Int32)), .unset, .unset, .unset, .unset] [(.long (1 : Int64))]))
        refine own_st (fun _ => XS.goto X0.here hx rfl (pc0 := 28) (pc' := 32) rfl (hb hby at_28) (by decide) (by decide)) ?_
        show own_End p e below P (s₁.setTop (mkF m 32 #[.val (.int p0), .val (.long q1), .second, .val (.long q2), .second, .val (.int p3), .val (.int n_), .val (.int (1 : Int32)), .unset, .unset, .unset, .unset] [(.long (1 : Int64))]))
        exact J14 _ ((if_pos hc12).trans (rfl)).symm
      · refine own_st (fun _ => XS.ifYes X0.here hx rfl (pc0 := 24) (pc' := 31) rfl (hb hby at_24) rfl ((if0 _ _).trans (feq (mt own_eq.mp hc12)).2) (by decide) (by decide)) ?_
        show own_End p e below P (s₁.setTop (mkF m 31 #[.val (.int p0), .val (.long q1), .second, .val (.long q2), .second, .val (.int p3), .val (.int n_), .val (.int (1 : Int32)), .unset, .unset, .unset, .unset] []))
        refine own_st (fun _ => XS.lloadN X0.here hx rfl (hb hby at_31) rfl) ?_
        show own_End p e below P (s₁.setTop (mkF m 32 #[.val (.int p0), .val (.long q1), .second, .val (.long q2), .second, .val (.int p3), .val (.int n_), .val (.int (1 : Int32)), .unset, .unset, .unset, .unset] [(.long q1)]))
        exact J14 _ ((if_neg hc12).trans (rfl)).symm
  · show own_End p e below P (s₁.setTop (mkF m 5 #[.val (.int p0), .val (.long q1), .second, .val (.long q2), .second, .val (.int p3), .unset, .unset, .unset, .unset, .unset, .unset] [(.int n_)]))
    have h16' := h16 hz
    refine own_st (fun _ => XS.istore X0.here hx rfl (hb hby at_5) rfl (l' := #[.val (.int p0), .val (.long q1), .second, .val (.long q2), .second, .val (.int p3), .val (.int n_), .unset, .unset, .unset, .unset, .unset]) rfl) ?_
    show own_End p e below P (s₁.setTop (mkF m 7 #[.val (.int p0), .val (.long q1), .second, .val (.long q2), .second, .val (.int p3), .val (.int n_), .unset, .unset, .unset, .unset, .unset] []))
    refine own_st (fun _ => XS.iload X0.here hx rfl (hb hby at_7) rfl) ?_
    show own_End p e below P (s₁.setTop (mkF m 9 #[.val (.int p0), .val (.long q1), .second, .val (.long q2), .second, .val (.int p3), .val (.int n_), .unset, .unset, .unset, .unset, .unset] [(.int p3)]))
    refine own_st (fun _ => XS.iconst X0.here hx rfl (hb hby at_9)) ?_
    show own_End p e below P (s₁.setTop (mkF m 10 #[.val (.int p0), .val (.long q1), .second, .val (.long q2), .second, .val (.int p3), .val (.int n_), .unset, .unset, .unset, .unset, .unset] [(.int (1 : Int32)), (.int p3)]))
    refine own_st (fun _ => XS.iand X0.here hx rfl (hb hby at_10) rfl) ?_
    show own_End p e below P (s₁.setTop (mkF m 11 #[.val (.int p0), .val (.long q1), .second, .val (.long q2), .second, .val (.int p3), .val (.int n_), .unset, .unset, .unset, .unset, .unset] [(.int (p3 &&& (1 : Int32)))]))
    by_cases hc30 : (p3 &&& (1 : Int32)) = (0 : Int32)
    · refine own_st (fun _ => XS.ifYes X0.here hx rfl (pc0 := 11) (pc' := 18) rfl (hb hby at_11) rfl ((if0 _ _).trans (teq hc30).1) (by decide) (by decide)) ?_
      show own_End p e below P (s₁.setTop (mkF m 18 #[.val (.int p0), .val (.long q1), .second, .val (.long q2), .second, .val (.int p3), .val (.int n_), .unset, .unset, .unset, .unset, .unset] []))
      refine own_st (fun _ => XS.iconst X0.here hx rfl (hb hby at_18)) ?_
      show own_End p e below P (s₁.setTop (mkF m 19 #[.val (.int p0), .val (.long q1), .second, .val (.long q2), .second, .val (.int p3), .val (.int n_), .unset, .unset, .unset, .unset, .unset] [(.int (0 : Int32))]))
      refine own_st (fun _ => XS.istore X0.here hx rfl (hb hby at_19) rfl (l' := #[.val (.int p0), .val (.long q1), .second, .val (.long q2), .second, .val (.int p3), .val (.int n_), .val (.int (0 : Int32)), .unset, .unset, .unset, .unset]) rfl) ?_
      show own_End p e below P (s₁.setTop (mkF m 21 #[.val (.int p0), .val (.long q1), .second, .val (.long q2), .second, .val (.int p3), .val (.int n_), .val (.int (0 : Int32)), .unset, .unset, .unset, .unset] []))
      refine own_st (fun _ => XS.lloadN X0.here hx rfl (hb hby at_21) rfl) ?_
      show own_End p e below P (s₁.setTop (mkF m 22 #[.val (.int p0), .val (.long q1), .second, .val (.long q2), .second, .val (.int p3), .val (.int n_), .val (.int (0 : Int32)), .unset, .unset, .unset, .unset] [(.long q1)]))
      refine own_st (fun _ => XS.lconst X0.here hx rfl (hb hby at_22)) ?_
      show own_End p e below P (s₁.setTop (mkF m 23 #[.val (.int p0), .val (.long q1), .second, .val (.long q2), .second, .val (.int p3), .val (.int n_), .val (.int (0 : Int32)), .unset, .unset, .unset, .unset] [(.long (0 : Int64)), (.long q1)]))
      refine own_st (fun _ => XS.lcmp X0.here hx rfl (hb hby at_23) rfl) ?_
      show own_End p e below P (s₁.setTop (mkF m 24 #[.val (.int p0), .val (.long q1), .second, .val (.long q2), .second, .val (.int p3), .val (.int n_), .val (.int (0 : Int32)), .unset, .unset, .unset, .unset] [(.int (lcmpW q1 (0 : Int64)))]))
      have J33 : ∀ u32 : Int64, u32 = (if q1 = (0 : Int64) then (1 : Int64) else q1) → own_End p e below P (s₁.setTop (mkF m 32 #[.val (.int p0), .val (.long q1), .second, .val (.long q2), .second, .val (.int p3), .val (.int n_), .val (.int (0 : Int32)), .unset, .unset, .unset, .unset] [(.long u32)])) := by
        intro u32 e_u32
        refine own_st (fun _ => XS.lstore X0.here hx rfl (hb hby at_32) rfl (l' := #[.val (.int p0), .val (.long q1), .second, .val (.long q2), .second, .val (.int p3), .val (.int n_), .val (.int (0 : Int32)), .val (.long u32), .second, .unset, .unset]) rfl) ?_
        show own_End p e below P (s₁.setTop (mkF m 34 #[.val (.int p0), .val (.long q1), .second, .val (.long q2), .second, .val (.int p3), .val (.int n_), .val (.int (0 : Int32)), .val (.long u32), .second, .unset, .unset] []))
        obtain ⟨T34, h34, X34, e34, E34, A34, D34, -, st34⟩ := newO X0 hx hZ hown (hw _ (List.mem_of_getElem? (i := 0) rfl)) (hw _ (List.mem_of_getElem? (i := 1) rfl)) (hw _ (List.mem_of_getElem? (i := 2) rfl)) e0 (g := (mkF m 34 #[.val (.int p0), .val (.long q1), .second, .val (.long q2), .second, .val (.int p3), .val (.int n_), .val (.int (0 : Int32)), .val (.long u32), .second, .unset, .unset] [])) rfl (hb hby at_34) (by decide) (by decide)
        obtain ⟨b34, g34⟩ : ∃ z, z = h0.size := ⟨_, rfl⟩
        rw [← g34] at A34 D34 st34
        have low_b34 : n0 ≤ b34 := Nat.le_trans (Nat.le_trans Z0 K0.1) (Nat.le_of_eq g34.symm)
        have sz_b34 : h0.size ≤ b34 := Nat.le_trans K0.1 (Nat.le_of_eq g34.symm)
        have K34 := Keep.ext K0 E34
        have F_b34_entries : Fld Z h34 b34 "com/example/defnot/defnot/CuckooStash" "entries" "[J" .null := D34 (Or.inl (hw _ (List.mem_of_getElem? (i := 16) rfl))) (ty := (.array .long)) (by decide)
        have F_b34_counts : Fld Z h34 b34 "com/example/defnot/defnot/CuckooStash" "counts" "[J" .null := D34 (Or.inl (hw _ (List.mem_of_getElem? (i := 18) rfl))) (ty := (.array .long)) (by decide)
        have F_b34_size : Fld Z h34 b34 "com/example/defnot/defnot/CuckooStash" "size" "I" (.int (0 : Int32)) := D34 (Or.inl (hw _ (List.mem_of_getElem? (i := 36) rfl))) (ty := .int) (by decide)
        have F_b34_copies : Fld Z h34 b34 "com/example/defnot/defnot/CuckooStash" "copies" "J" (.long (0 : Int64)) := D34 (Or.inl (hw _ (List.mem_of_getElem? (i := 48) rfl))) (ty := .long) (by decide)
        refine own_st (fun _ => st34 _) ?_
        show own_End p e below P (T34.setTop (mkF m 37 #[.val (.int p0), .val (.long q1), .second, .val (.long q2), .second, .val (.int p3), .val (.int n_), .val (.int (0 : Int32)), .val (.long u32), .second, .unset, .unset] [(.ref b34)]))
        refine own_st (fun _ => XS.dup X34.here hx rfl (hb hby at_37) rfl rfl) ?_
        show own_End p e below P (T34.setTop (mkF m 38 #[.val (.int p0), .val (.long q1), .second, .val (.long q2), .second, .val (.int p3), .val (.int n_), .val (.int (0 : Int32)), .val (.long u32), .second, .unset, .unset] [(.ref b34), (.ref b34)]))
        refine own_st (fun _ => XS.iload X34.here hx rfl (hb hby at_38) rfl) ?_
        show own_End p e below P (T34.setTop (mkF m 40 #[.val (.int p0), .val (.long q1), .second, .val (.long q2), .second, .val (.int p3), .val (.int n_), .val (.int (0 : Int32)), .val (.long u32), .second, .unset, .unset] [(.int n_), (.ref b34), (.ref b34)]))
        refine own_callI X34 hx hZ (y := (⟨"com/example/defnot/defnot/CuckooStash", "<init>", "(I)V"⟩ : MethodName)) rfl hown (hw _ (List.mem_of_getElem? (i := 3) rfl)) (hw _ (List.mem_of_getElem? (i := 4) rfl)) (hw _ (List.mem_of_getElem? (i := 2) rfl)) (hw _ (List.mem_of_getElem? (i := 5) rfl)) (by decide) (own_minit l Z a0 hw [] b34 n_ cq h34 n0 (Nat.le_trans Z0 K34.1) A34 F_b34_entries F_b34_counts F_b34_size F_b34_copies low_b34 hm hcp hc2) 1 (by decide) (by decide) e34 (by decide) (by decide) (g := (mkF m 40 #[.val (.int p0), .val (.long q1), .second, .val (.long q2), .second, .val (.int p3), .val (.int n_), .val (.int (0 : Int32)), .val (.long u32), .second, .unset, .unset] [(.int n_), (.ref b34), (.ref b34)])) rfl (by rw [hml']; rfl) (a := b34) (argsL := [(.int n_)]) (rest := [(.ref b34)]) rfl (lenOf own_pd_I_V_240 rfl) rfl (by show 2 * 0 + _ ≤ _; exact Nat.le_of_eq rfl) (hb hby at_40) (fun r35 T35 L35 X35 hQ35 => ?_)
        obtain ⟨b3_35, b8_35, rfl, Nq35, Kq35, szq_b3_35, low_b3_35, szq_b8_35, low_b8_35, ne_b3_35_b8_35, f0_35, f1_35, f2_35, f3_35, f4_35, f5_35, f6_35⟩ := hQ35
        have N35 := Fr.app N0 Nq35
        have ne36 : b34 ≠ b3_35 := Nat.ne_of_lt (Nat.lt_of_lt_of_le A34.lt szq_b3_35)
        have ne37 : b34 ≠ b8_35 := Nat.ne_of_lt (Nat.lt_of_lt_of_le A34.lt szq_b8_35)
        have sz_b3_35 := Nat.le_trans K34.1 szq_b3_35
        have sz_b8_35 := Nat.le_trans K34.1 szq_b8_35
        have K35 := Keep.trans K34 Kq35 (allS (Or.inr sz_b34) all0)
        show own_End p e below P (T35.setTop (mkF m 43 #[.val (.int p0), .val (.long q1), .second, .val (.long q2), .second, .val (.int p3), .val (.int n_), .val (.int (0 : Int32)), .val (.long u32), .second, .unset, .unset] [(.ref b34)]))
        refine own_st (fun _ => XS.astore X35.here hx rfl (hb hby at_43) rfl rfl (l' := #[.val (.int p0), .val (.long q1), .second, .val (.long q2), .second, .val (.int p3), .val (.int n_), .val (.int (0 : Int32)), .val (.long u32), .second, .val (.ref b34), .unset]) rfl) ?_
        show own_End p e below P (T35.setTop (mkF m 45 #[.val (.int p0), .val (.long q1), .second, .val (.long q2), .second, .val (.int p3), .val (.int n_), .val (.int (0 : Int32)), .val (.long u32), .second, .val (.ref b34), .unset] []))
        refine own_st (fun _ => XS.iload X35.here hx rfl (hb hby at_45) rfl) ?_
        show own_End p e below P (T35.setTop (mkF m 47 #[.val (.int p0), .val (.long q1), .second, .val (.long q2), .second, .val (.int p3), .val (.int n_), .val (.int (0 : Int32)), .val (.long u32), .second, .val (.ref b34), .unset] [(.int (0 : Int32))]))
        refine own_st (fun _ => XS.ifYes X35.here hx rfl (pc0 := 47) (pc' := 58) rfl (hb hby at_47) rfl ((if0 _ _).trans (teq (by decide : (0 : Int32) = (0 : Int32))).1) (by decide) (by decide)) ?_
        show own_End p e below P (T35.setTop (mkF m 58 #[.val (.int p0), .val (.long q1), .second, .val (.long q2), .second, .val (.int p3), .val (.int n_), .val (.int (0 : Int32)), .val (.long u32), .second, .val (.ref b34), .unset] []))
        refine own_st (fun _ => XS.iload X35.here hx rfl (hb hby at_58) rfl) ?_
        show own_End p e below P (T35.setTop (mkF m 60 #[.val (.int p0), .val (.long q1), .second, .val (.long q2), .second, .val (.int p3), .val (.int n_), .val (.int (0 : Int32)), .val (.long u32), .second, .val (.ref b34), .unset] [(.int (0 : Int32))]))
        refine own_st (fun _ => XS.ifYes X35.here hx rfl (pc0 := 60) (pc' := 72) rfl (hb hby at_60) rfl ((if0 _ _).trans (teq (by decide : (0 : Int32) = (0 : Int32))).1) (by decide) (by decide)) ?_
        show own_End p e below P (T35.setTop (mkF m 72 #[.val (.int p0), .val (.long q1), .second, .val (.long q2), .second, .val (.int p3), .val (.int n_), .val (.int (0 : Int32)), .val (.long u32), .second, .val (.ref b34), .unset] []))
        refine own_st (fun _ => XS.iload X35.here hx rfl (hb hby at_72) rfl) ?_
        show own_End p e below P (T35.setTop (mkF m 74 #[.val (.int p0), .val (.long q1), .second, .val (.long q2), .second, .val (.int p3), .val (.int n_), .val (.int (0 : Int32)), .val (.long u32), .second, .val (.ref b34), .unset] [(.int n_)]))
        refine own_st (fun _ => XS.istore X35.here hx rfl (hb hby at_74) rfl (l' := #[.val (.int p0), .val (.long q1), .second, .val (.long q2), .second, .val (.int p3), .val (.int n_), .val (.int (0 : Int32)), .val (.long u32), .second, .val (.ref b34), .val (.int n_)]) rfl) ?_
        show own_End p e below P (T35.setTop (mkF m 76 #[.val (.int p0), .val (.long q1), .second, .val (.long q2), .second, .val (.int p3), .val (.int n_), .val (.int (0 : Int32)), .val (.long u32), .second, .val (.ref b34), .val (.int n_)] []))
        refine own_st (fun _ => XS.aload X35.here hx rfl (hb hby at_76) rfl rfl) ?_
        show own_End p e below P (T35.setTop (mkF m 78 #[.val (.int p0), .val (.long q1), .second, .val (.long q2), .second, .val (.int p3), .val (.int n_), .val (.int (0 : Int32)), .val (.long u32), .second, .val (.ref b34), .val (.int n_)] [(.ref b34)]))
        refine own_callV X35 hx hZ (y := (⟨"com/example/defnot/defnot/CuckooStash", "bytes", "()J"⟩ : MethodName)) (z := (⟨"com/example/defnot/defnot/CuckooStash", "bytes", "()J"⟩ : MethodName)) hown (hw _ (List.mem_of_getElem? (i := 19) rfl)) (hw _ (List.mem_of_getElem? (i := 20) rfl)) (notFace_of_selects (args := #[]) (mvT hZ (hw _ (List.mem_of_getElem? (i := 22) rfl)))) (hw _ (List.mem_of_getElem? (i := 22) rfl)) (hw _ (List.mem_of_getElem? (i := 21) rfl)) (hw _ (List.mem_of_getElem? (i := 2) rfl)) (hw _ (List.mem_of_getElem? (i := 23) rfl)) (by decide) f0_35 (own_mbytes l Z a0 hw [] b34 (List.replicate cq (0 : Int64)) b3_35 T35.heap n0 (Nat.le_trans Z0 K35.1) f1_35 f5_35) 0 (by decide) (by decide) rfl (by decide) (by decide) (g := (mkF m 78 #[.val (.int p0), .val (.long q1), .second, .val (.long q2), .second, .val (.int p3), .val (.int n_), .val (.int (0 : Int32)), .val (.long u32), .second, .val (.ref b34), .val (.int n_)] [(.ref b34)])) rfl (by rw [hml']; rfl) (argsL := []) (rest := []) rfl (lenOf own_pd_J_155 rfl) rfl (by show 2 * 0 + _ ≤ _; exact Nat.le_of_eq rfl) (hb hby at_78) (fun r38 T38 L38 X38 hQ38 => ?_)
        obtain ⟨rfl, Nq38, eq38⟩ := hQ38
        have N38 := Fr.app N35 Nq38
        show own_End p e below P (T38.setTop (mkF m 81 #[.val (.int p0), .val (.long q1), .second, .val (.long q2), .second, .val (.int p3), .val (.int n_), .val (.int (0 : Int32)), .val (.long u32), .second, .val (.ref b34), .val (.int n_)] [(.long (own_fbytes (List.replicate cq (0 : Int64))))]))
        refine own_st (fun _ => XS.iload X38.here hx rfl (hb hby at_81) rfl) ?_
        show own_End p e below P (T38.setTop (mkF m 83 #[.val (.int p0), .val (.long q1), .second, .val (.long q2), .second, .val (.int p3), .val (.int n_), .val (.int (0 : Int32)), .val (.long u32), .second, .val (.ref b34), .val (.int n_)] [(.int n_), (.long (own_fbytes (List.replicate cq (0 : Int64))))]))
        refine own_callS X38 hx hZ (y := (⟨"com/example/defnot/defnot/CuckooStashBytesPinLaw", "expected", "(I)J"⟩ : MethodName)) hown (hw _ (List.mem_of_getElem? (i := 26) rfl)) (hw _ (List.mem_of_getElem? (i := 27) rfl)) (hw _ (List.mem_of_getElem? (i := 28) rfl)) (hw _ (List.mem_of_getElem? (i := 29) rfl)) (by decide) (own_mexp l Z a0 hw [] n_  T35.heap n0 (Nat.le_trans Z0 K35.1) ) 2 (by decide) (by decide) eq38 (by decide) (by decide) (g := (mkF m 83 #[.val (.int p0), .val (.long q1), .second, .val (.long q2), .second, .val (.int p3), .val (.int n_), .val (.int (0 : Int32)), .val (.long u32), .second, .val (.ref b34), .val (.int n_)] [(.int n_), (.long (own_fbytes (List.replicate cq (0 : Int64))))])) rfl (by rw [hml']; rfl) (argsL := [(.int n_)]) (rest := [(.long (own_fbytes (List.replicate cq (0 : Int64))))]) rfl (lenOf own_pd_I_J_228 rfl) rfl (by show 2 * 0 + _ ≤ _; exact Nat.le_of_eq rfl) (hb hby at_83) (fun r39 T39 L39 X39 hQ39 => ?_)
        obtain ⟨rfl, Nq39, eq39⟩ := hQ39
        have N39 := Fr.app N38 Nq39
        show own_End p e below P (T39.setTop (mkF m 86 #[.val (.int p0), .val (.long q1), .second, .val (.long q2), .second, .val (.int p3), .val (.int n_), .val (.int (0 : Int32)), .val (.long u32), .second, .val (.ref b34), .val (.int n_)] [(.long (own_fexp n_)), (.long (own_fbytes (List.replicate cq (0 : Int64))))]))
        refine own_st (fun _ => XS.lcmp X39.here hx rfl (hb hby at_86) rfl) ?_
        show own_End p e below P (T39.setTop (mkF m 87 #[.val (.int p0), .val (.long q1), .second, .val (.long q2), .second, .val (.int p3), .val (.int n_), .val (.int (0 : Int32)), .val (.long u32), .second, .val (.ref b34), .val (.int n_)] [(.int (lcmpW (own_fbytes (List.replicate cq (0 : Int64))) (own_fexp n_)))]))
        have hd40 : (own_fbytes (List.replicate cq (0 : Int64))) = (own_fexp n_) := by rw [hE]; exact own_fb (by rw [List.length_replicate])
        refine own_st (fun _ => XS.ifNo X39.here hx rfl (hb hby at_87) rfl ((if0 _ _).trans (teq (own_eq.mpr hd40)).2)) ?_
        show own_End p e below P (T39.setTop (mkF m 90 #[.val (.int p0), .val (.long q1), .second, .val (.long q2), .second, .val (.int p3), .val (.int n_), .val (.int (0 : Int32)), .val (.long u32), .second, .val (.ref b34), .val (.int n_)] []))
        refine own_st (fun _ => XS.iconst X39.here hx rfl (hb hby at_90)) ?_
        show own_End p e below P (T39.setTop (mkF m 91 #[.val (.int p0), .val (.long q1), .second, .val (.long q2), .second, .val (.int p3), .val (.int n_), .val (.int (0 : Int32)), .val (.long u32), .second, .val (.ref b34), .val (.int n_)] [(.int (1 : Int32))]))
        refine own_st (fun _ => XS.goto X39.here hx rfl (pc0 := 91) (pc' := 95) rfl (hb hby at_91) (by decide) (by decide)) ?_
        show own_End p e below P (T39.setTop (mkF m 95 #[.val (.int p0), .val (.long q1), .second, .val (.long q2), .second, .val (.int p3), .val (.int n_), .val (.int (0 : Int32)), .val (.long u32), .second, .val (.ref b34), .val (.int n_)] [(.int (1 : Int32))]))
        exact own_retN X39 hx hlk hP (t := .boolean) (by simp) hrt (hb hby at_95) (by decide) (by decide) ⟨rfl, N39⟩
      by_cases hc31 : q1 = (0 : Int64)
      · refine own_st (fun _ => XS.ifNo X0.here hx rfl (hb hby at_24) rfl ((if0 _ _).trans (teq (own_eq.mpr hc31)).2)) ?_
        show own_End p e below P (s₁.setTop (mkF m 27 #[.val (.int p0), .val (.long q1), .second, .val (.long q2), .second, .val (.int p3), .val (.int n_), .val (.int (0 : Int32)), .unset, .unset, .unset, .unset] []))
        refine own_st (fun _ => XS.lconst X0.here hx rfl (hb hby at_27)) ?_
        show own_End p e below P (s₁.setTop (mkF m 28 #[.val (.int p0), .val (.long q1), .second, .val (.long q2), .second, .val (.int p3), .val (.int n_), .val (.int (0 : Int32)), .unset, .unset, .unset, .unset] [(.long (1 : Int64))]))
        refine own_st (fun _ => XS.goto X0.here hx rfl (pc0 := 28) (pc' := 32) rfl (hb hby at_28) (by decide) (by decide)) ?_
        show own_End p e below P (s₁.setTop (mkF m 32 #[.val (.int p0), .val (.long q1), .second, .val (.long q2), .second, .val (.int p3), .val (.int n_), .val (.int (0 : Int32)), .unset, .unset, .unset, .unset] [(.long (1 : Int64))]))
        exact J33 _ ((if_pos hc31).trans (rfl)).symm
      · refine own_st (fun _ => XS.ifYes X0.here hx rfl (pc0 := 24) (pc' := 31) rfl (hb hby at_24) rfl ((if0 _ _).trans (feq (mt own_eq.mp hc31)).2) (by decide) (by decide)) ?_
        show own_End p e below P (s₁.setTop (mkF m 31 #[.val (.int p0), .val (.long q1), .second, .val (.long q2), .second, .val (.int p3), .val (.int n_), .val (.int (0 : Int32)), .unset, .unset, .unset, .unset] []))
        refine own_st (fun _ => XS.lloadN X0.here hx rfl (hb hby at_31) rfl) ?_
        show own_End p e below P (s₁.setTop (mkF m 32 #[.val (.int p0), .val (.long q1), .second, .val (.long q2), .second, .val (.int p3), .val (.int n_), .val (.int (0 : Int32)), .unset, .unset, .unset, .unset] [(.long q1)]))
        exact J33 _ ((if_neg hc31).trans (rfl)).symm
    · refine own_st (fun _ => XS.ifNo X0.here hx rfl (hb hby at_11) rfl ((if0 _ _).trans (feq hc30).1)) ?_
      show own_End p e below P (s₁.setTop (mkF m 14 #[.val (.int p0), .val (.long q1), .second, .val (.long q2), .second, .val (.int p3), .val (.int n_), .unset, .unset, .unset, .unset, .unset] []))
      refine own_st (fun _ => XS.iconst X0.here hx rfl (hb hby at_14)) ?_
      show own_End p e below P (s₁.setTop (mkF m 15 #[.val (.int p0), .val (.long q1), .second, .val (.long q2), .second, .val (.int p3), .val (.int n_), .unset, .unset, .unset, .unset, .unset] [(.int (1 : Int32))]))
      refine own_st (fun _ => XS.goto X0.here hx rfl (pc0 := 15) (pc' := 19) rfl (hb hby at_15) (by decide) (by decide)) ?_
      show own_End p e below P (s₁.setTop (mkF m 19 #[.val (.int p0), .val (.long q1), .second, .val (.long q2), .second, .val (.int p3), .val (.int n_), .unset, .unset, .unset, .unset, .unset] [(.int (1 : Int32))]))
      refine own_st (fun _ => XS.istore X0.here hx rfl (hb hby at_19) rfl (l' := #[.val (.int p0), .val (.long q1), .second, .val (.long q2), .second, .val (.int p3), .val (.int n_), .val (.int (1 : Int32)), .unset, .unset, .unset, .unset]) rfl) ?_
      show own_End p e below P (s₁.setTop (mkF m 21 #[.val (.int p0), .val (.long q1), .second, .val (.long q2), .second, .val (.int p3), .val (.int n_), .val (.int (1 : Int32)), .unset, .unset, .unset, .unset] []))
      refine own_st (fun _ => XS.lloadN X0.here hx rfl (hb hby at_21) rfl) ?_
      show own_End p e below P (s₁.setTop (mkF m 22 #[.val (.int p0), .val (.long q1), .second, .val (.long q2), .second, .val (.int p3), .val (.int n_), .val (.int (1 : Int32)), .unset, .unset, .unset, .unset] [(.long q1)]))
      refine own_st (fun _ => XS.lconst X0.here hx rfl (hb hby at_22)) ?_
      show own_End p e below P (s₁.setTop (mkF m 23 #[.val (.int p0), .val (.long q1), .second, .val (.long q2), .second, .val (.int p3), .val (.int n_), .val (.int (1 : Int32)), .unset, .unset, .unset, .unset] [(.long (0 : Int64)), (.long q1)]))
      refine own_st (fun _ => XS.lcmp X0.here hx rfl (hb hby at_23) rfl) ?_
      show own_End p e below P (s₁.setTop (mkF m 24 #[.val (.int p0), .val (.long q1), .second, .val (.long q2), .second, .val (.int p3), .val (.int n_), .val (.int (1 : Int32)), .unset, .unset, .unset, .unset] [(.int (lcmpW q1 (0 : Int64)))]))
      have J43 : ∀ u42 : Int64, u42 = (if q1 = (0 : Int64) then (1 : Int64) else q1) → own_End p e below P (s₁.setTop (mkF m 32 #[.val (.int p0), .val (.long q1), .second, .val (.long q2), .second, .val (.int p3), .val (.int n_), .val (.int (1 : Int32)), .unset, .unset, .unset, .unset] [(.long u42)])) := by
        intro u42 e_u42
        refine own_st (fun _ => XS.lstore X0.here hx rfl (hb hby at_32) rfl (l' := #[.val (.int p0), .val (.long q1), .second, .val (.long q2), .second, .val (.int p3), .val (.int n_), .val (.int (1 : Int32)), .val (.long u42), .second, .unset, .unset]) rfl) ?_
        show own_End p e below P (s₁.setTop (mkF m 34 #[.val (.int p0), .val (.long q1), .second, .val (.long q2), .second, .val (.int p3), .val (.int n_), .val (.int (1 : Int32)), .val (.long u42), .second, .unset, .unset] []))
        obtain ⟨T44, h44, X44, e44, E44, A44, D44, -, st44⟩ := newO X0 hx hZ hown (hw _ (List.mem_of_getElem? (i := 0) rfl)) (hw _ (List.mem_of_getElem? (i := 1) rfl)) (hw _ (List.mem_of_getElem? (i := 2) rfl)) e0 (g := (mkF m 34 #[.val (.int p0), .val (.long q1), .second, .val (.long q2), .second, .val (.int p3), .val (.int n_), .val (.int (1 : Int32)), .val (.long u42), .second, .unset, .unset] [])) rfl (hb hby at_34) (by decide) (by decide)
        obtain ⟨b44, g44⟩ : ∃ z, z = h0.size := ⟨_, rfl⟩
        rw [← g44] at A44 D44 st44
        have low_b44 : n0 ≤ b44 := Nat.le_trans (Nat.le_trans Z0 K0.1) (Nat.le_of_eq g44.symm)
        have sz_b44 : h0.size ≤ b44 := Nat.le_trans K0.1 (Nat.le_of_eq g44.symm)
        have K44 := Keep.ext K0 E44
        have F_b44_entries : Fld Z h44 b44 "com/example/defnot/defnot/CuckooStash" "entries" "[J" .null := D44 (Or.inl (hw _ (List.mem_of_getElem? (i := 16) rfl))) (ty := (.array .long)) (by decide)
        have F_b44_counts : Fld Z h44 b44 "com/example/defnot/defnot/CuckooStash" "counts" "[J" .null := D44 (Or.inl (hw _ (List.mem_of_getElem? (i := 18) rfl))) (ty := (.array .long)) (by decide)
        have F_b44_size : Fld Z h44 b44 "com/example/defnot/defnot/CuckooStash" "size" "I" (.int (0 : Int32)) := D44 (Or.inl (hw _ (List.mem_of_getElem? (i := 36) rfl))) (ty := .int) (by decide)
        have F_b44_copies : Fld Z h44 b44 "com/example/defnot/defnot/CuckooStash" "copies" "J" (.long (0 : Int64)) := D44 (Or.inl (hw _ (List.mem_of_getElem? (i := 48) rfl))) (ty := .long) (by decide)
        refine own_st (fun _ => st44 _) ?_
        show own_End p e below P (T44.setTop (mkF m 37 #[.val (.int p0), .val (.long q1), .second, .val (.long q2), .second, .val (.int p3), .val (.int n_), .val (.int (1 : Int32)), .val (.long u42), .second, .unset, .unset] [(.ref b44)]))
        refine own_st (fun _ => XS.dup X44.here hx rfl (hb hby at_37) rfl rfl) ?_
        show own_End p e below P (T44.setTop (mkF m 38 #[.val (.int p0), .val (.long q1), .second, .val (.long q2), .second, .val (.int p3), .val (.int n_), .val (.int (1 : Int32)), .val (.long u42), .second, .unset, .unset] [(.ref b44), (.ref b44)]))
        refine own_st (fun _ => XS.iload X44.here hx rfl (hb hby at_38) rfl) ?_
        show own_End p e below P (T44.setTop (mkF m 40 #[.val (.int p0), .val (.long q1), .second, .val (.long q2), .second, .val (.int p3), .val (.int n_), .val (.int (1 : Int32)), .val (.long u42), .second, .unset, .unset] [(.int n_), (.ref b44), (.ref b44)]))
        refine own_callI X44 hx hZ (y := (⟨"com/example/defnot/defnot/CuckooStash", "<init>", "(I)V"⟩ : MethodName)) rfl hown (hw _ (List.mem_of_getElem? (i := 3) rfl)) (hw _ (List.mem_of_getElem? (i := 4) rfl)) (hw _ (List.mem_of_getElem? (i := 2) rfl)) (hw _ (List.mem_of_getElem? (i := 5) rfl)) (by decide) (own_minit l Z a0 hw [] b44 n_ cq h44 n0 (Nat.le_trans Z0 K44.1) A44 F_b44_entries F_b44_counts F_b44_size F_b44_copies low_b44 hm hcp hc2) 1 (by decide) (by decide) e44 (by decide) (by decide) (g := (mkF m 40 #[.val (.int p0), .val (.long q1), .second, .val (.long q2), .second, .val (.int p3), .val (.int n_), .val (.int (1 : Int32)), .val (.long u42), .second, .unset, .unset] [(.int n_), (.ref b44), (.ref b44)])) rfl (by rw [hml']; rfl) (a := b44) (argsL := [(.int n_)]) (rest := [(.ref b44)]) rfl (lenOf own_pd_I_V_240 rfl) rfl (by show 2 * 0 + _ ≤ _; exact Nat.le_of_eq rfl) (hb hby at_40) (fun r45 T45 L45 X45 hQ45 => ?_)
        obtain ⟨b3_45, b8_45, rfl, Nq45, Kq45, szq_b3_45, low_b3_45, szq_b8_45, low_b8_45, ne_b3_45_b8_45, f0_45, f1_45, f2_45, f3_45, f4_45, f5_45, f6_45⟩ := hQ45
        have N45 := Fr.app N0 Nq45
        have ne46 : b44 ≠ b3_45 := Nat.ne_of_lt (Nat.lt_of_lt_of_le A44.lt szq_b3_45)
        have ne47 : b44 ≠ b8_45 := Nat.ne_of_lt (Nat.lt_of_lt_of_le A44.lt szq_b8_45)
        have sz_b3_45 := Nat.le_trans K44.1 szq_b3_45
        have sz_b8_45 := Nat.le_trans K44.1 szq_b8_45
        have K45 := Keep.trans K44 Kq45 (allS (Or.inr sz_b44) all0)
        show own_End p e below P (T45.setTop (mkF m 43 #[.val (.int p0), .val (.long q1), .second, .val (.long q2), .second, .val (.int p3), .val (.int n_), .val (.int (1 : Int32)), .val (.long u42), .second, .unset, .unset] [(.ref b44)]))
        refine own_st (fun _ => XS.astore X45.here hx rfl (hb hby at_43) rfl rfl (l' := #[.val (.int p0), .val (.long q1), .second, .val (.long q2), .second, .val (.int p3), .val (.int n_), .val (.int (1 : Int32)), .val (.long u42), .second, .val (.ref b44), .unset]) rfl) ?_
        show own_End p e below P (T45.setTop (mkF m 45 #[.val (.int p0), .val (.long q1), .second, .val (.long q2), .second, .val (.int p3), .val (.int n_), .val (.int (1 : Int32)), .val (.long u42), .second, .val (.ref b44), .unset] []))
        refine own_st (fun _ => XS.iload X45.here hx rfl (hb hby at_45) rfl) ?_
        show own_End p e below P (T45.setTop (mkF m 47 #[.val (.int p0), .val (.long q1), .second, .val (.long q2), .second, .val (.int p3), .val (.int n_), .val (.int (1 : Int32)), .val (.long u42), .second, .val (.ref b44), .unset] [(.int (1 : Int32))]))
        refine own_st (fun _ => XS.ifNo X45.here hx rfl (hb hby at_47) rfl ((if0 _ _).trans (feq (by decide : ¬ ((1 : Int32) = (0 : Int32)))).1)) ?_
        show own_End p e below P (T45.setTop (mkF m 50 #[.val (.int p0), .val (.long q1), .second, .val (.long q2), .second, .val (.int p3), .val (.int n_), .val (.int (1 : Int32)), .val (.long u42), .second, .val (.ref b44), .unset] []))
        refine own_st (fun _ => XS.aload X45.here hx rfl (hb hby at_50) rfl rfl) ?_
        show own_End p e below P (T45.setTop (mkF m 52 #[.val (.int p0), .val (.long q1), .second, .val (.long q2), .second, .val (.int p3), .val (.int n_), .val (.int (1 : Int32)), .val (.long u42), .second, .val (.ref b44), .unset] [(.ref b44)]))
        refine own_st (fun _ => XS.lload X45.here hx rfl (hb hby at_52) rfl) ?_
        show own_End p e below P (T45.setTop (mkF m 54 #[.val (.int p0), .val (.long q1), .second, .val (.long q2), .second, .val (.int p3), .val (.int n_), .val (.int (1 : Int32)), .val (.long u42), .second, .val (.ref b44), .unset] [(.long u42), (.ref b44)]))
        refine own_st (fun _ => XS.lloadN X45.here hx rfl (hb hby at_54) rfl) ?_
        show own_End p e below P (T45.setTop (mkF m 55 #[.val (.int p0), .val (.long q1), .second, .val (.long q2), .second, .val (.int p3), .val (.int n_), .val (.int (1 : Int32)), .val (.long u42), .second, .val (.ref b44), .unset] [(.long q2), (.long u42), (.ref b44)]))
        refine own_callV X45 hx hZ (y := (⟨"com/example/defnot/defnot/CuckooStash", "add", "(JJ)V"⟩ : MethodName)) (z := (⟨"com/example/defnot/defnot/CuckooStash", "add", "(JJ)V"⟩ : MethodName)) hown (hw _ (List.mem_of_getElem? (i := 30) rfl)) (hw _ (List.mem_of_getElem? (i := 31) rfl)) (notFace_of_selects (args := #[]) (mvT hZ (hw _ (List.mem_of_getElem? (i := 33) rfl)))) (hw _ (List.mem_of_getElem? (i := 33) rfl)) (hw _ (List.mem_of_getElem? (i := 32) rfl)) (hw _ (List.mem_of_getElem? (i := 2) rfl)) (hw _ (List.mem_of_getElem? (i := 34) rfl)) (by decide) f0_45 (own_madd l Z a0 hw [] b44 u42 q2 cq b3_45 b8_45 T45.heap n0 (Nat.le_trans Z0 K45.1) f0_45 f1_45 f2_45 f3_45 f4_45 f5_45 f6_45 low_b44 low_b3_45 low_b8_45 ne46 ne47 ne_b3_45_b8_45 h16' hc2) 0 (by decide) (by decide) rfl (by decide) (by decide) (g := (mkF m 55 #[.val (.int p0), .val (.long q1), .second, .val (.long q2), .second, .val (.int p3), .val (.int n_), .val (.int (1 : Int32)), .val (.long u42), .second, .val (.ref b44), .unset] [(.long q2), (.long u42), (.ref b44)])) rfl (by rw [hml']; rfl) (argsL := [(.long u42), (.long q2)]) (rest := []) rfl (lenOf own_pd_JJ_V_315 rfl) rfl (by show 2 * 0 + _ ≤ _; exact Nat.le_of_eq rfl) (hb hby at_55) (fun r48 T48 L48 X48 hQ48 => ?_)
        obtain ⟨rfl, Nq48, Kq48, f0_48, f1_48, f2_48, f3_48, f4_48, f5_48, f6_48⟩ := hQ48
        have N48 := Fr.app N45 Nq48
        have K48 := Keep.trans K45 Kq48 (allS (Or.inr sz_b44) (allS (Or.inr sz_b3_45) (allS (Or.inr sz_b8_45) all0)))
        show own_End p e below P (T48.setTop (mkF m 58 #[.val (.int p0), .val (.long q1), .second, .val (.long q2), .second, .val (.int p3), .val (.int n_), .val (.int (1 : Int32)), .val (.long u42), .second, .val (.ref b44), .unset] []))
        refine own_st (fun _ => XS.iload X48.here hx rfl (hb hby at_58) rfl) ?_
        show own_End p e below P (T48.setTop (mkF m 60 #[.val (.int p0), .val (.long q1), .second, .val (.long q2), .second, .val (.int p3), .val (.int n_), .val (.int (1 : Int32)), .val (.long u42), .second, .val (.ref b44), .unset] [(.int (1 : Int32))]))
        refine own_st (fun _ => XS.ifNo X48.here hx rfl (hb hby at_60) rfl ((if0 _ _).trans (feq (by decide : ¬ ((1 : Int32) = (0 : Int32)))).1)) ?_
        show own_End p e below P (T48.setTop (mkF m 63 #[.val (.int p0), .val (.long q1), .second, .val (.long q2), .second, .val (.int p3), .val (.int n_), .val (.int (1 : Int32)), .val (.long u42), .second, .val (.ref b44), .unset] []))
        refine own_st (fun _ => XS.iload X48.here hx rfl (hb hby at_63) rfl) ?_
        show own_End p e below P (T48.setTop (mkF m 65 #[.val (.int p0), .val (.long q1), .second, .val (.long q2), .second, .val (.int p3), .val (.int n_), .val (.int (1 : Int32)), .val (.long u42), .second, .val (.ref b44), .unset] [(.int n_)]))
        refine own_st (fun _ => XS.iconst X48.here hx rfl (hb hby at_65)) ?_
        show own_End p e below P (T48.setTop (mkF m 66 #[.val (.int p0), .val (.long q1), .second, .val (.long q2), .second, .val (.int p3), .val (.int n_), .val (.int (1 : Int32)), .val (.long u42), .second, .val (.ref b44), .unset] [(.int (1 : Int32)), (.int n_)]))
        refine own_callS X48 hx hZ (y := (⟨"java/lang/Math", "max", "(II)I"⟩ : MethodName)) hown (hw _ (List.mem_of_getElem? (i := 49) rfl)) (hw _ (List.mem_of_getElem? (i := 50) rfl)) (hw _ (List.mem_of_getElem? (i := 51) rfl)) (hw _ (List.mem_of_getElem? (i := 52) rfl)) (by decide) (own_mmax l Z a0 hw [] n_ (1 : Int32)  T48.heap n0 (Nat.le_trans Z0 K48.1) ) 0 (by decide) (by decide) rfl (by decide) (by decide) (g := (mkF m 66 #[.val (.int p0), .val (.long q1), .second, .val (.long q2), .second, .val (.int p3), .val (.int n_), .val (.int (1 : Int32)), .val (.long u42), .second, .val (.ref b44), .unset] [(.int (1 : Int32)), (.int n_)])) rfl (by rw [hml']; rfl) (argsL := [(.int n_), (.int (1 : Int32))]) (rest := []) rfl (lenOf own_pd_II_I_300 rfl) rfl (by show 2 * 0 + _ ≤ _; exact Nat.le_of_eq rfl) (hb hby at_66) (fun r49 T49 L49 X49 hQ49 => ?_)
        obtain ⟨rfl, Nq49, eq49⟩ := hQ49
        have N49 := Fr.app N48 Nq49
        show own_End p e below P (T49.setTop (mkF m 69 #[.val (.int p0), .val (.long q1), .second, .val (.long q2), .second, .val (.int p3), .val (.int n_), .val (.int (1 : Int32)), .val (.long u42), .second, .val (.ref b44), .unset] [(.int (own_fmax n_ (1 : Int32)))]))
        refine own_st (fun _ => XS.goto X49.here hx rfl (pc0 := 69) (pc' := 74) rfl (hb hby at_69) (by decide) (by decide)) ?_
        show own_End p e below P (T49.setTop (mkF m 74 #[.val (.int p0), .val (.long q1), .second, .val (.long q2), .second, .val (.int p3), .val (.int n_), .val (.int (1 : Int32)), .val (.long u42), .second, .val (.ref b44), .unset] [(.int (own_fmax n_ (1 : Int32)))]))
        refine own_st (fun _ => XS.istore X49.here hx rfl (hb hby at_74) rfl (l' := #[.val (.int p0), .val (.long q1), .second, .val (.long q2), .second, .val (.int p3), .val (.int n_), .val (.int (1 : Int32)), .val (.long u42), .second, .val (.ref b44), .val (.int (own_fmax n_ (1 : Int32)))]) rfl) ?_
        show own_End p e below P (T49.setTop (mkF m 76 #[.val (.int p0), .val (.long q1), .second, .val (.long q2), .second, .val (.int p3), .val (.int n_), .val (.int (1 : Int32)), .val (.long u42), .second, .val (.ref b44), .val (.int (own_fmax n_ (1 : Int32)))] []))
        refine own_st (fun _ => XS.aload X49.here hx rfl (hb hby at_76) rfl rfl) ?_
        show own_End p e below P (T49.setTop (mkF m 78 #[.val (.int p0), .val (.long q1), .second, .val (.long q2), .second, .val (.int p3), .val (.int n_), .val (.int (1 : Int32)), .val (.long u42), .second, .val (.ref b44), .val (.int (own_fmax n_ (1 : Int32)))] [(.ref b44)]))
        refine own_callV X49 hx hZ (y := (⟨"com/example/defnot/defnot/CuckooStash", "bytes", "()J"⟩ : MethodName)) (z := (⟨"com/example/defnot/defnot/CuckooStash", "bytes", "()J"⟩ : MethodName)) hown (hw _ (List.mem_of_getElem? (i := 19) rfl)) (hw _ (List.mem_of_getElem? (i := 20) rfl)) (notFace_of_selects (args := #[]) (mvT hZ (hw _ (List.mem_of_getElem? (i := 22) rfl)))) (hw _ (List.mem_of_getElem? (i := 22) rfl)) (hw _ (List.mem_of_getElem? (i := 21) rfl)) (hw _ (List.mem_of_getElem? (i := 2) rfl)) (hw _ (List.mem_of_getElem? (i := 23) rfl)) (by decide) f0_48 (own_mbytes l Z a0 hw [] b44 ((List.replicate cq (0 : Int64)).set (own_ffind u42 cq).toNatClampNeg u42) b3_45 T48.heap n0 (Nat.le_trans Z0 K48.1) f1_48 f5_48) 0 (by decide) (by decide) eq49 (by decide) (by decide) (g := (mkF m 78 #[.val (.int p0), .val (.long q1), .second, .val (.long q2), .second, .val (.int p3), .val (.int n_), .val (.int (1 : Int32)), .val (.long u42), .second, .val (.ref b44), .val (.int (own_fmax n_ (1 : Int32)))] [(.ref b44)])) rfl (by rw [hml']; rfl) (argsL := []) (rest := []) rfl (lenOf own_pd_J_155 rfl) rfl (by show 2 * 0 + _ ≤ _; exact Nat.le_of_eq rfl) (hb hby at_78) (fun r50 T50 L50 X50 hQ50 => ?_)
        obtain ⟨rfl, Nq50, eq50⟩ := hQ50
        have N50 := Fr.app N49 Nq50
        show own_End p e below P (T50.setTop (mkF m 81 #[.val (.int p0), .val (.long q1), .second, .val (.long q2), .second, .val (.int p3), .val (.int n_), .val (.int (1 : Int32)), .val (.long u42), .second, .val (.ref b44), .val (.int (own_fmax n_ (1 : Int32)))] [(.long (own_fbytes ((List.replicate cq (0 : Int64)).set (own_ffind u42 cq).toNatClampNeg u42)))]))
        refine own_st (fun _ => XS.iload X50.here hx rfl (hb hby at_81) rfl) ?_
        show own_End p e below P (T50.setTop (mkF m 83 #[.val (.int p0), .val (.long q1), .second, .val (.long q2), .second, .val (.int p3), .val (.int n_), .val (.int (1 : Int32)), .val (.long u42), .second, .val (.ref b44), .val (.int (own_fmax n_ (1 : Int32)))] [(.int (own_fmax n_ (1 : Int32))), (.long (own_fbytes ((List.replicate cq (0 : Int64)).set (own_ffind u42 cq).toNatClampNeg u42)))]))
        refine own_callS X50 hx hZ (y := (⟨"com/example/defnot/defnot/CuckooStashBytesPinLaw", "expected", "(I)J"⟩ : MethodName)) hown (hw _ (List.mem_of_getElem? (i := 26) rfl)) (hw _ (List.mem_of_getElem? (i := 27) rfl)) (hw _ (List.mem_of_getElem? (i := 28) rfl)) (hw _ (List.mem_of_getElem? (i := 29) rfl)) (by decide) (own_mexp l Z a0 hw [] (own_fmax n_ (1 : Int32))  T48.heap n0 (Nat.le_trans Z0 K48.1) ) 2 (by decide) (by decide) eq50 (by decide) (by decide) (g := (mkF m 83 #[.val (.int p0), .val (.long q1), .second, .val (.long q2), .second, .val (.int p3), .val (.int n_), .val (.int (1 : Int32)), .val (.long u42), .second, .val (.ref b44), .val (.int (own_fmax n_ (1 : Int32)))] [(.int (own_fmax n_ (1 : Int32))), (.long (own_fbytes ((List.replicate cq (0 : Int64)).set (own_ffind u42 cq).toNatClampNeg u42)))])) rfl (by rw [hml']; rfl) (argsL := [(.int (own_fmax n_ (1 : Int32)))]) (rest := [(.long (own_fbytes ((List.replicate cq (0 : Int64)).set (own_ffind u42 cq).toNatClampNeg u42)))]) rfl (lenOf own_pd_I_J_228 rfl) rfl (by show 2 * 0 + _ ≤ _; exact Nat.le_of_eq rfl) (hb hby at_83) (fun r51 T51 L51 X51 hQ51 => ?_)
        obtain ⟨rfl, Nq51, eq51⟩ := hQ51
        have N51 := Fr.app N50 Nq51
        show own_End p e below P (T51.setTop (mkF m 86 #[.val (.int p0), .val (.long q1), .second, .val (.long q2), .second, .val (.int p3), .val (.int n_), .val (.int (1 : Int32)), .val (.long u42), .second, .val (.ref b44), .val (.int (own_fmax n_ (1 : Int32)))] [(.long (own_fexp (own_fmax n_ (1 : Int32)))), (.long (own_fbytes ((List.replicate cq (0 : Int64)).set (own_ffind u42 cq).toNatClampNeg u42)))]))
        refine own_st (fun _ => XS.lcmp X51.here hx rfl (hb hby at_86) rfl) ?_
        show own_End p e below P (T51.setTop (mkF m 87 #[.val (.int p0), .val (.long q1), .second, .val (.long q2), .second, .val (.int p3), .val (.int n_), .val (.int (1 : Int32)), .val (.long u42), .second, .val (.ref b44), .val (.int (own_fmax n_ (1 : Int32)))] [(.int (lcmpW (own_fbytes ((List.replicate cq (0 : Int64)).set (own_ffind u42 cq).toNatClampNeg u42)) (own_fexp (own_fmax n_ (1 : Int32)))))]))
        have hd52 : (own_fbytes ((List.replicate cq (0 : Int64)).set (own_ffind u42 cq).toNatClampNeg u42)) = (own_fexp (own_fmax n_ (1 : Int32))) := by rw [own_mx1 hz hm.1, hE]; exact own_fb (by rw [List.length_set, List.length_replicate])
        refine own_st (fun _ => XS.ifNo X51.here hx rfl (hb hby at_87) rfl ((if0 _ _).trans (teq (own_eq.mpr hd52)).2)) ?_
        show own_End p e below P (T51.setTop (mkF m 90 #[.val (.int p0), .val (.long q1), .second, .val (.long q2), .second, .val (.int p3), .val (.int n_), .val (.int (1 : Int32)), .val (.long u42), .second, .val (.ref b44), .val (.int (own_fmax n_ (1 : Int32)))] []))
        refine own_st (fun _ => XS.iconst X51.here hx rfl (hb hby at_90)) ?_
        show own_End p e below P (T51.setTop (mkF m 91 #[.val (.int p0), .val (.long q1), .second, .val (.long q2), .second, .val (.int p3), .val (.int n_), .val (.int (1 : Int32)), .val (.long u42), .second, .val (.ref b44), .val (.int (own_fmax n_ (1 : Int32)))] [(.int (1 : Int32))]))
        refine own_st (fun _ => XS.goto X51.here hx rfl (pc0 := 91) (pc' := 95) rfl (hb hby at_91) (by decide) (by decide)) ?_
        show own_End p e below P (T51.setTop (mkF m 95 #[.val (.int p0), .val (.long q1), .second, .val (.long q2), .second, .val (.int p3), .val (.int n_), .val (.int (1 : Int32)), .val (.long u42), .second, .val (.ref b44), .val (.int (own_fmax n_ (1 : Int32)))] [(.int (1 : Int32))]))
        exact own_retN X51 hx hlk hP (t := .boolean) (by simp) hrt (hb hby at_95) (by decide) (by decide) ⟨rfl, N51⟩
      by_cases hc41 : q1 = (0 : Int64)
      · refine own_st (fun _ => XS.ifNo X0.here hx rfl (hb hby at_24) rfl ((if0 _ _).trans (teq (own_eq.mpr hc41)).2)) ?_
        show own_End p e below P (s₁.setTop (mkF m 27 #[.val (.int p0), .val (.long q1), .second, .val (.long q2), .second, .val (.int p3), .val (.int n_), .val (.int (1 : Int32)), .unset, .unset, .unset, .unset] []))
        refine own_st (fun _ => XS.lconst X0.here hx rfl (hb hby at_27)) ?_
        show own_End p e below P (s₁.setTop (mkF m 28 #[.val (.int p0), .val (.long q1), .second, .val (.long q2), .second, .val (.int p3), .val (.int n_), .val (.int (1 : Int32)), .unset, .unset, .unset, .unset] [(.long (1 : Int64))]))
        refine own_st (fun _ => XS.goto X0.here hx rfl (pc0 := 28) (pc' := 32) rfl (hb hby at_28) (by decide) (by decide)) ?_
        show own_End p e below P (s₁.setTop (mkF m 32 #[.val (.int p0), .val (.long q1), .second, .val (.long q2), .second, .val (.int p3), .val (.int n_), .val (.int (1 : Int32)), .unset, .unset, .unset, .unset] [(.long (1 : Int64))]))
        exact J43 _ ((if_pos hc41).trans (rfl)).symm
      · refine own_st (fun _ => XS.ifYes X0.here hx rfl (pc0 := 24) (pc' := 31) rfl (hb hby at_24) rfl ((if0 _ _).trans (feq (mt own_eq.mp hc41)).2) (by decide) (by decide)) ?_
        show own_End p e below P (s₁.setTop (mkF m 31 #[.val (.int p0), .val (.long q1), .second, .val (.long q2), .second, .val (.int p3), .val (.int n_), .val (.int (1 : Int32)), .unset, .unset, .unset, .unset] []))
        refine own_st (fun _ => XS.lloadN X0.here hx rfl (hb hby at_31) rfl) ?_
        show own_End p e below P (s₁.setTop (mkF m 32 #[.val (.int p0), .val (.long q1), .second, .val (.long q2), .second, .val (.int p3), .val (.int n_), .val (.int (1 : Int32)), .unset, .unset, .unset, .unset] [(.long q1)]))
        exact J43 _ ((if_neg hc41).trans (rfl)).symm
set_option maxRecDepth 65536 in
set_option maxHeartbeats 40000000 in
theorem comes_1 {Post : Tables → Env → Array Value → State → Outcome → State → Prop} (hpost : ∀ tb e args s v u, (limb_1_1.after args s (.returned v) u = true ∧ limb_1_2.after args s (.returned v) u = true ∧ True) → FrameEnd s (.returned v) u (Jvm.fieldLocs frame_1_writes args s ++ Jvm.arrayLocs frame_1_arrays args s ++ Jvm.staticLocs frame_1_statics s) 24 131200 → Post tb e args s (.returned v) u) :
    ArmFor flags0 classFile x code maxLocals ret World_1 tables_1 room_1 Calls_1 rest_1 Pre_1 Post := by
  intro l hfl _ _ p e ha hc hk s m args below hf hA hF happ hP
  obtain ⟨hcalls, hrest, hpre⟩ := hP
  obtain ⟨-, -, -, hnamed, -, -, -, hat⟩ := (Spec.applies_iff hf).mp happ
  obtain ⟨hg, hn⟩ := and_e (Cond.before_iff.mp (show (Jvm.Cond.and given_1 narrow_1).before args s = true from hpre))
  obtain ⟨k1, l1⟩ := and_e hg
  obtain ⟨k2, l2⟩ := and_e l1
  obtain ⟨k3, l3⟩ := and_e l2
  obtain ⟨k4, l4⟩ := and_e l3
  obtain ⟨w0, w1, w2, w3, rfl⟩ : ∃ w0 w1 w2 w3 : Value, args = #[w0, w1, w2, w3] := by
    have hs : args.size = 4 := by simpa [Cond.value, given_1] using k1
    obtain ⟨L⟩ := args
    match L, hs with
    | [w0, w1, w2, w3], _ => exact ⟨w0, w1, w2, w3, rfl⟩
  have hw := fun d (hd : d ∈ tables_1) => atoms_spec (ws := Jvm.Cond.code x code maxLocals ret :: tables_1) hat d (List.mem_cons_of_mem _ hd)
  have hfit : Fit s := fun {y c} hc i hi => by
    obtain ⟨ha, rfl⟩ := Array.getElem?_eq_some_iff.mp hc
    have q := List.all_eq_true.mp ((Array.all_eq_true_iff_forall_mem.mp hF) _ (Array.getElem_mem ha)) i (List.mem_range.mpr hi)
    simpa [Array.getElem?_eq_getElem hi] using q
  obtain ⟨i0, ei0⟩ := is_v k2
  obtain rfl : w0 = (.int i0) := Option.some.inj ei0
  obtain ⟨i1, ei1⟩ := isL_v k3
  obtain rfl : w1 = (.long i1) := Option.some.inj ei1
  obtain ⟨i2, ei2⟩ := isL_v k4
  obtain rfl : w2 = (.long i2) := Option.some.inj ei2
  obtain ⟨i3, ei3⟩ := is_v l4
  obtain rfl : w3 = (.int i3) := Option.some.inj ei3
  obtain ⟨n, o, h1, h2, h3, _, L, rfl, ⟨rfl, N⟩, hq⟩ := own_m0 l s _ hw tables_1 i0 i1 i2 i3  s.heap s.heap.size (Nat.le_refl _)  p e ha hc hk s m _ below hf ((Spec.applies_iff_loose hf).mp happ).1 ⟨rfl, State.Warmed39.refl s, rfl⟩ trivial
  refine ⟨n, _, h1, h2, h3, hpost _ _ _ _ _ _ ⟨Cond.after_iff.mpr rfl, Cond.after_iff.mpr (eq_i res_at (Term.int_eval (1)) rfl), trivial⟩ ⟨hq.1, hq.2.1, (hq.2.2.sift fun y hy => Or.inr (N y hy)).mono (by decide) (by decide)⟩⟩
theorem main_1_1 : Claimed_1_1 := comes_1 fun _ _ _ _ _ _ h hF => ⟨h.1, hF⟩
theorem main_1_2 : Claimed_1_2 := comes_1 fun _ _ _ _ _ _ h hF => ⟨h.2.1, hF⟩
end Jvm.Pilot.@@N@@
namespace Jvm.Pilot.@@N@@
open Jvm Jvm.ClassFile Sem Op Lib Jvm.Free Jvm.Stand Jvm.Pilot.@@N@@.Jvm.D
/-! MADE BY PROGRAM (witnessworld.py) out of the Statement's table words and the real class files: 13 classes; the members and pool entries that the words name. The judged class is class 1, her method 1. -/
namespace start1
open Jvm.ClassFile
def u (s : String) : CpInfo := .utf8 (stringToUtf16 s)
/-- a pool by its gaps: so many unusable entries, then the entry; so many at the end -/
def gap : Nat → List CpInfo → List CpInfo
  | 0, r => r
  | n + 1, r => .unusable :: gap n r
def poolList (es : List (Nat × CpInfo)) (last : Nat) : List CpInfo := es.foldr (fun e r => gap e.1 (e.2 :: r)) (gap last [])
def pool (es : List (Nat × CpInfo)) (last : Nat) : Array CpInfo := ⟨poolList es last⟩
def fileOf (pool : Array CpInfo) (this : Nat) (attrs : Array Attribute := #[]) (ms : Array MethodInfo := #[]) (fl : Nat := 33) (sup : Nat := 0) (ifs : Array Nat := #[]) (fds : Array FieldInfo := #[]) : ClassFile where
  minorVersion := 0
  majorVersion := 65
  constantPool := pool
  accessFlags := fl
  thisClass := this
  superClass := sup
  interfaces := ifs
  fields := fds
  methods := ms
  attributes := attrs
def plain (name : String) (sup : Option ClassId) : Class where
  name := name
  kind := .ordinary
  loader := none
  accessFlags := 33
  super := sup
  interfaces := #[]
  cf := none
  fields := #[]
  methods := #[]
  instanceTypes := #[]
  staticTypes := #[]
  resolved := #[]
  callSites := []
  init := .initialized
  statics := none
  mirror := none

def pool0 : Array CpInfo := pool [(5, u "<init>"), (0, u "()V"), (1, .class_ 10), (1, u "java/lang/Object")] 113

def k0c0 : Code := { maxStack := 0, maxLocals := 1, code := object_method_1_code, exceptionTable := #[], attributes := #[] }
def k0m0 : Method := { name := "<init>", desc := "()V", sig := { parameters := [], returnType := none }, accessFlags := 1, code := some k0c0 }
/-- java/lang/Object -/
def k0 : Class := { plain "java/lang/Object" none with
  accessFlags := 33
  interfaces := #[]
  cf := some (fileOf pool0 8 #[] #[{ accessFlags := 1, nameIndex := 5, descriptorIndex := 6, attributes := #[] }] 33 0 #[] #[])
  fields := #[]
  methods := #[k0m0]
  instanceTypes := #[]
  staticTypes := #[]
  resolved := Array.replicate 124 none
  statics := none }

def pool1 : Array CpInfo := pool [(2, .class_ 4), (1, u "java/lang/Object"), (0, u "<init>"), (0, u "()V"), (0, .class_ 8), (0, u "com/example/defnot/defnot/CuckooStash"), (0, .methodref 7 10), (0, .nameAndType 5 11), (0, u "(I)V"), (0, .methodref 7 13), (0, .nameAndType 14 15), (0, u "add"), (0, u "(JJ)V"), (0, .methodref 17 18), (0, .class_ 19), (0, .nameAndType 20 21), (0, u "java/lang/Math"), (0, u "max"), (0, u "(II)I"), (0, .methodref 7 23), (0, .nameAndType 24 25), (0, u "bytes"), (0, u "()J"), (0, .methodref 27 28), (0, .class_ 29), (0, .nameAndType 30 31), (0, u "com/example/defnot/defnot/CuckooStashBytesPinLaw"), (0, u "expected"), (0, u "(I)J"), (0, .long 16), (3, u "law"), (0, u "(IJJI)Z")] 3

def k1m0 : Method := { name := "<init>", desc := "()V", sig := { parameters := [], returnType := none }, accessFlags := 1, code := none }
def k1c1 : Code := { maxStack := 5, maxLocals := 12, code := code, exceptionTable := #[], attributes := #[] }
def k1m1 : Method := { name := "law", desc := "(IJJI)Z", sig := { parameters := [.int, .long, .long, .int], returnType := some .boolean }, accessFlags := 9, code := some k1c1 }
def k1c2 : Code := { maxStack := 4, maxLocals := 4, code := method_3_code, exceptionTable := #[], attributes := #[] }
def k1m2 : Method := { name := "expected", desc := "(I)J", sig := { parameters := [.int], returnType := some .long }, accessFlags := 10, code := some k1c2 }
/-- com/example/defnot/defnot/CuckooStashBytesPinLaw -/
def k1 : Class := { plain "com/example/defnot/defnot/CuckooStashBytesPinLaw" (some 0) with
  accessFlags := 49
  interfaces := #[]
  cf := some (fileOf pool1 27 #[] #[{ accessFlags := 1, nameIndex := 5, descriptorIndex := 6, attributes := #[] }, { accessFlags := 9, nameIndex := 36, descriptorIndex := 37, attributes := #[] }, { accessFlags := 10, nameIndex := 30, descriptorIndex := 31, attributes := #[] }] 49 2 #[] #[])
  fields := #[]
  methods := #[k1m0, k1m1, k1m2]
  instanceTypes := #[]
  staticTypes := #[]
  resolved := Array.replicate 41 none
  statics := none }

def pool2 : Array CpInfo := pool [(2, .class_ 4), (1, u "com/example/defnot/defnot/CuckooStash"), (0, u "<init>"), (0, u "(I)V"), (0, .methodref 8 9), (0, .class_ 10), (0, .nameAndType 5 11), (0, u "java/lang/Object"), (0, u "()V"), (0, .methodref 2 13), (0, .nameAndType 14 15), (0, u "places"), (0, u "(I)I"), (0, .fieldref 2 17), (0, .nameAndType 18 19), (0, u "entries"), (0, u "[J"), (0, .fieldref 2 21), (0, .nameAndType 22 19), (0, u "counts"), (0, .long 2), (3, .long 8), (1, .fieldref 2 30), (0, .nameAndType 31 32), (0, u "size"), (0, u "I"), (0, .fieldref 2 34), (0, .nameAndType 35 36), (0, u "copies"), (0, u "J"), (0, .long 4), (1, .long 3), (1, .methodref 2 42), (0, .nameAndType 43 11), (0, u "grow"), (0, .methodref 2 45), (0, .nameAndType 46 47), (0, u "find"), (0, u "(J)I"), (9, .methodref 58 59), (0, .class_ 60), (0, .nameAndType 61 62), (0, u "com/example/defnot/defnot/MurmurHash3"), (0, u "finish"), (0, u "(J)J"), (0, .methodref 64 65), (0, .class_ 66), (0, .nameAndType 67 68), (0, u "java/lang/Math"), (0, u "multiplyExact"), (0, u "(II)I"), (0, u "FIRST_PLACES"), (7, u "()J"), (0, u "bytes"), (0, u "add"), (0, u "(JJ)V")] 8

def k2m0 : Method := { name := "<init>", desc := "()V", sig := { parameters := [], returnType := none }, accessFlags := 0, code := none }
def k2c1 : Code := { maxStack := 2, maxLocals := 3, code := prog_8_method_2_code, exceptionTable := #[], attributes := #[] }
def k2m1 : Method := { name := "<init>", desc := "(I)V", sig := { parameters := [.int], returnType := none }, accessFlags := 0, code := some k2c1 }
def k2c2 : Code := { maxStack := 4, maxLocals := 1, code := prog_8_method_6_code, exceptionTable := #[], attributes := #[] }
def k2m2 : Method := { name := "bytes", desc := "()J", sig := { parameters := [], returnType := some .long }, accessFlags := 0, code := some k2c2 }
def k2c3 : Code := { maxStack := 6, maxLocals := 6, code := prog_8_method_7_code, exceptionTable := #[], attributes := #[] }
def k2m3 : Method := { name := "add", desc := "(JJ)V", sig := { parameters := [.long, .long], returnType := none }, accessFlags := 0, code := some k2c3 }
def k2c4 : Code := { maxStack := 4, maxLocals := 5, code := prog_8_method_10_code, exceptionTable := #[], attributes := #[] }
def k2m4 : Method := { name := "find", desc := "(J)I", sig := { parameters := [.long], returnType := some .int }, accessFlags := 2, code := some k2c4 }
def k2c5 : Code := { maxStack := 4, maxLocals := 5, code := prog_8_method_12_code, exceptionTable := #[], attributes := #[] }
def k2m5 : Method := { name := "grow", desc := "()V", sig := { parameters := [], returnType := none }, accessFlags := 2, code := some k2c5 }
def k2c6 : Code := { maxStack := 6, maxLocals := 2, code := prog_8_method_13_code, exceptionTable := #[], attributes := #[] }
def k2m6 : Method := { name := "places", desc := "(I)I", sig := { parameters := [.int], returnType := some .int }, accessFlags := 10, code := some k2c6 }
/-- com/example/defnot/defnot/CuckooStash -/
def k2 : Class := { plain "com/example/defnot/defnot/CuckooStash" (some 0) with
  accessFlags := 48
  interfaces := #[]
  cf := some (fileOf pool2 2 #[] #[{ accessFlags := 0, nameIndex := 5, descriptorIndex := 11, attributes := #[] }, { accessFlags := 0, nameIndex := 5, descriptorIndex := 6, attributes := #[] }, { accessFlags := 0, nameIndex := 78, descriptorIndex := 77, attributes := #[] }, { accessFlags := 0, nameIndex := 79, descriptorIndex := 80, attributes := #[] }, { accessFlags := 2, nameIndex := 46, descriptorIndex := 47, attributes := #[] }, { accessFlags := 2, nameIndex := 43, descriptorIndex := 11, attributes := #[] }, { accessFlags := 10, nameIndex := 14, descriptorIndex := 15, attributes := #[] }] 48 8 #[] #[{ accessFlags := 26, nameIndex := 69, descriptorIndex := 32, attributes := #[] }, { accessFlags := 2, nameIndex := 18, descriptorIndex := 19, attributes := #[] }, { accessFlags := 2, nameIndex := 22, descriptorIndex := 19, attributes := #[] }, { accessFlags := 2, nameIndex := 31, descriptorIndex := 32, attributes := #[] }, { accessFlags := 2, nameIndex := 35, descriptorIndex := 36, attributes := #[] }])
  fields := #[{ name := "FIRST_PLACES", type := .int, accessFlags := 26, slot := 0, constantValue := 0 }, { name := "entries", type := (.array .long), accessFlags := 2, slot := 0, constantValue := 0 }, { name := "counts", type := (.array .long), accessFlags := 2, slot := 1, constantValue := 0 }, { name := "size", type := .int, accessFlags := 2, slot := 2, constantValue := 0 }, { name := "copies", type := .long, accessFlags := 2, slot := 3, constantValue := 0 }]
  methods := #[k2m0, k2m1, k2m2, k2m3, k2m4, k2m5, k2m6]
  instanceTypes := #[(.array .long), (.array .long), .int, .long]
  staticTypes := #[.int]
  resolved := Array.replicate 89 none
  statics := none }

def pool3 : Array CpInfo := pool [(2, .class_ 4), (1, u "java/lang/Object"), (0, u "<init>"), (0, u "()V"), (7, .class_ 16), (1, u "com/example/defnot/defnot/MurmurHash3"), (10, u "LITTLE_ENDIAN_LONG"), (0, u "Ljava/lang/invoke/VarHandle;"), (9, u "(J)J"), (27, u "finish"), (8, .long 18397679294719823053), (1, .long 14181476777654086739), (15, u "C1"), (0, u "J"), (1, u "C2"), (0, u "BLOCK_BYTES"), (0, u "I")] 11

def k3m0 : Method := { name := "<init>", desc := "()V", sig := { parameters := [], returnType := none }, accessFlags := 2, code := none }
def k3c1 : Code := { maxStack := 5, maxLocals := 4, code := prog_26_method_7_code, exceptionTable := #[], attributes := #[] }
def k3m1 : Method := { name := "finish", desc := "(J)J", sig := { parameters := [.long], returnType := some .long }, accessFlags := 8, code := some k3c1 }
/-- com/example/defnot/defnot/MurmurHash3 -/
def k3 : Class := { plain "com/example/defnot/defnot/MurmurHash3" (some 0) with
  accessFlags := 48
  interfaces := #[]
  cf := some (fileOf pool3 14 #[] #[{ accessFlags := 2, nameIndex := 5, descriptorIndex := 6, attributes := #[] }, { accessFlags := 8, nameIndex := 66, descriptorIndex := 38, attributes := #[] }] 48 2 #[] #[{ accessFlags := 26, nameIndex := 93, descriptorIndex := 94, attributes := #[] }, { accessFlags := 26, nameIndex := 96, descriptorIndex := 94, attributes := #[] }, { accessFlags := 26, nameIndex := 97, descriptorIndex := 98, attributes := #[] }, { accessFlags := 26, nameIndex := 27, descriptorIndex := 28, attributes := #[] }])
  fields := #[{ name := "C1", type := .long, accessFlags := 26, slot := 0, constantValue := 0 }, { name := "C2", type := .long, accessFlags := 26, slot := 1, constantValue := 0 }, { name := "BLOCK_BYTES", type := .int, accessFlags := 26, slot := 2, constantValue := 0 }, { name := "LITTLE_ENDIAN_LONG", type := (.object "java/lang/invoke/VarHandle"), accessFlags := 26, slot := 3, constantValue := 0 }]
  methods := #[k3m0, k3m1]
  instanceTypes := #[]
  staticTypes := #[.long, .long, .int, (.object "java/lang/invoke/VarHandle")]
  resolved := Array.replicate 110 none
  statics := none }

def pool4 : Array CpInfo := pool [(1, .class_ 2), (0, u "java/lang/Math"), (1, .class_ 6), (1, u "java/lang/Object"), (0, u "<init>"), (0, u "()V"), (89, .class_ 100), (1, u "java/lang/Math$RandomNumberGeneratorHolder"), (19, u "multiplyExact"), (51, u "negativeZeroFloatBits"), (0, u "J"), (2, u "negativeZeroDoubleBits"), (21, u "max"), (46, u "$assertionsDisabled"), (0, u "Z"), (88, u "(II)I"), (2, u "twoToTheDoubleScaleDown"), (0, u "D"), (4, u "twoToTheDoubleScaleUp"), (9, u "E"), (3, u "PI"), (2, u "TAU"), (2, u "DEGREES_TO_RADIANS"), (0, u "RADIANS_TO_DEGREES")] 94

def k4m0 : Method := { name := "<init>", desc := "()V", sig := { parameters := [], returnType := none }, accessFlags := 2, code := none }
def k4c1 : Code := { maxStack := 4, maxLocals := 4, code := jdk_29_method_28_code, exceptionTable := #[], attributes := #[] }
def k4m1 : Method := { name := "multiplyExact", desc := "(II)I", sig := { parameters := [.int, .int], returnType := some .int }, accessFlags := 9, code := some k4c1 }
def k4c2 : Code := { maxStack := 2, maxLocals := 2, code := jdk_29_method_65_code, exceptionTable := #[], attributes := #[] }
def k4m2 : Method := { name := "max", desc := "(II)I", sig := { parameters := [.int, .int], returnType := some .int }, accessFlags := 9, code := some k4c2 }
/-- java/lang/Math -/
def k4 : Class := { plain "java/lang/Math" (some 0) with
  accessFlags := 49
  interfaces := #[]
  cf := some (fileOf pool4 1 #[.nestMembers #[98]] #[{ accessFlags := 2, nameIndex := 7, descriptorIndex := 8, attributes := #[] }, { accessFlags := 9, nameIndex := 120, descriptorIndex := 335, attributes := #[] }, { accessFlags := 9, nameIndex := 198, descriptorIndex := 335, attributes := #[] }] 49 4 #[] #[{ accessFlags := 25, nameIndex := 354, descriptorIndex := 339, attributes := #[] }, { accessFlags := 25, nameIndex := 358, descriptorIndex := 339, attributes := #[] }, { accessFlags := 25, nameIndex := 361, descriptorIndex := 339, attributes := #[] }, { accessFlags := 26, nameIndex := 364, descriptorIndex := 339, attributes := #[] }, { accessFlags := 26, nameIndex := 365, descriptorIndex := 339, attributes := #[] }, { accessFlags := 26, nameIndex := 172, descriptorIndex := 173, attributes := #[] }, { accessFlags := 26, nameIndex := 176, descriptorIndex := 173, attributes := #[] }, { accessFlags := 8, nameIndex := 344, descriptorIndex := 339, attributes := #[] }, { accessFlags := 8, nameIndex := 338, descriptorIndex := 339, attributes := #[] }, { accessFlags := 4120, nameIndex := 245, descriptorIndex := 246, attributes := #[] }])
  fields := #[{ name := "E", type := .double, accessFlags := 25, slot := 0, constantValue := 0 }, { name := "PI", type := .double, accessFlags := 25, slot := 1, constantValue := 0 }, { name := "TAU", type := .double, accessFlags := 25, slot := 2, constantValue := 0 }, { name := "DEGREES_TO_RADIANS", type := .double, accessFlags := 26, slot := 3, constantValue := 0 }, { name := "RADIANS_TO_DEGREES", type := .double, accessFlags := 26, slot := 4, constantValue := 0 }, { name := "negativeZeroFloatBits", type := .long, accessFlags := 26, slot := 5, constantValue := 0 }, { name := "negativeZeroDoubleBits", type := .long, accessFlags := 26, slot := 6, constantValue := 0 }, { name := "twoToTheDoubleScaleUp", type := .double, accessFlags := 8, slot := 7, constantValue := 0 }, { name := "twoToTheDoubleScaleDown", type := .double, accessFlags := 8, slot := 8, constantValue := 0 }, { name := "$assertionsDisabled", type := .boolean, accessFlags := 4120, slot := 9, constantValue := 0 }]
  methods := #[k4m0, k4m1, k4m2]
  instanceTypes := #[]
  staticTypes := #[.double, .double, .double, .double, .double, .long, .long, .double, .double, .boolean]
  resolved := Array.replicate 460 none
  statics := none }

def pool5 : Array CpInfo := pool [(1, u "java/lang/Cloneable"), (0, .class_ 1), (0, u "java/lang/Object"), (0, .class_ 3)] 3

/-- java/lang/Cloneable -/
def k5 : Class := { plain "java/lang/Cloneable" (some 0) with
  accessFlags := 1537
  interfaces := #[]
  cf := some (fileOf pool5 2 #[] #[] 1537 4 #[] #[])
  fields := #[]
  methods := #[]
  instanceTypes := #[]
  staticTypes := #[]
  resolved := Array.replicate 8 none
  statics := none }

def pool6 : Array CpInfo := pool [(1, u "java/io/Serializable"), (0, .class_ 1), (0, u "java/lang/Object"), (0, .class_ 3)] 3

/-- java/io/Serializable -/
def k6 : Class := { plain "java/io/Serializable" (some 0) with
  accessFlags := 1537
  interfaces := #[]
  cf := some (fileOf pool6 2 #[] #[] 1537 4 #[] #[])
  fields := #[]
  methods := #[]
  instanceTypes := #[]
  staticTypes := #[]
  resolved := Array.replicate 8 none
  statics := none }

/-- the primitive byte -/
def k7 : Class := { plain "byte" none with kind := .primitive 'B', accessFlags := 0x411 }
/-- [B -/
def k8 : Class := { plain "[B" (some 0) with kind := .array 7 .byte, interfaces := #[5, 6], accessFlags := 1041 }

/-- the primitive int -/
def k9 : Class := { plain "int" none with kind := .primitive 'I', accessFlags := 0x411 }
/-- [I -/
def k10 : Class := { plain "[I" (some 0) with kind := .array 9 .int, interfaces := #[5, 6], accessFlags := 1041 }

/-- the primitive long -/
def k11 : Class := { plain "long" none with kind := .primitive 'J', accessFlags := 0x411 }
/-- [J -/
def k12 : Class := { plain "[J" (some 0) with kind := .array 11 .long, interfaces := #[5, 6], accessFlags := 1041 }

def heap : Heap := #[]
def classes : Array Class := #[k0, k1, k2, k3, k4, k5, k6, k7, k8, k9, k10, k11, k12]
def interned : List (Array UInt16 × Addr) := []
def slotsUsed : Nat := 0
def theMethod : MethodId := ⟨1, 1⟩
def args0 : Array Value := #[.int 5, .long 6, .long 7, .int 1]
def aboutOver (below : List Frame) : State where
  vm := { classes := classes, interned := interned.toArray }
  heap := heap
  slotsUsed := slotsUsed
  threads := #[{ frames := .invoking theMethod args0 :: below }]
def below0 : List Frame := [.native { method := ⟨0, 0⟩, args := #[] }]
def about1 : State := aboutOver below0
def p0 : Program := .bare "" "" ""
def e0 : Env := launch0.env 0 0 0
theorem w_frames : about1.frames = Frame.invoking theMethod args0 :: below0 := rfl
set_option maxRecDepth 65536 in
theorem w_args : argsFit about1.vm theMethod args0 = true := by decide +kernel
set_option maxRecDepth 65536 in
theorem w_heap : heapFits about1 = true := by decide +kernel
set_option maxRecDepth 65536 in
theorem w_runnable : about1.curStatus? = some .runnable := by decide +kernel
set_option maxRecDepth 65536 in
theorem w_alone : about1.alone = true := by decide +kernel
set_option maxRecDepth 65536 in
theorem w_named : about1.methodNamed? x = some theMethod := by decide +kernel
set_option maxRecDepth 65536 in
theorem w_hears : about1.hears theMethod below0 = true := by decide +kernel
set_option maxRecDepth 65536 in
theorem w_ripe : about1.ripe theMethod args0 below0 = true := by decide +kernel
theorem w_running : about1.status = .running := rfl
set_option maxRecDepth 65536 in
theorem w_room : about1.hasRoom e0.platform room_1 = true :=
  launch0.hasRoom_least _ room_1 (by decide +kernel) (by decide +kernel) (by decide +kernel) (by decide +kernel) (by decide +kernel) (by decide +kernel)
theorem allAtoms_all (ts : List Jvm.Cond) (a : Array Jvm.Value) (st : Jvm.State) : (allAtoms ts).before a st = ts.all (fun c => c.before a st) := by
  induction ts with
  | nil => rfl
  | cons c t ih =>
    show (Jvm.Cond.and c (allAtoms t)).before a st = _
    rw [Jvm.Cond.before_and, ih, List.all_cons]
def words1 : List Jvm.Cond := Jvm.Cond.code x code maxLocals ret :: tables_1
/-- a 'code' word, met by the world's own term for the bytes: nothing is compared byte by byte -/
theorem code_word {y : MethodName} {bytes : ByteArray} {mx : Nat} {rt : Option FieldType} {a : Array Value} {s : State} {m : MethodId} {meth : Method} {c : Code} (h1 : s.methodNamed? y = some m) (h2 : s.vm.method? m = some meth) (h3 : meth.code = some c) (h4 : c.code = bytes)
    (h5 : (c.maxLocals == mx && c.exceptionTable.isEmpty && decide (c.maxStack ≤ mostOperands) && decide (meth.sig.returnType = rt) && !meth.locks && decide (parseMethodDescriptor y.desc = some meth.sig)) = true) : (Jvm.Cond.code y bytes mx rt).before a s = true := by
  simp only [Bool.and_eq_true, beq_iff_eq, Bool.not_eq_true', decide_eq_true_eq] at h5
  obtain ⟨⟨⟨⟨⟨g1, g2⟩, g3⟩, g4⟩, g5⟩, g6⟩ := h5
  simp [Cond.before, Cond.holds, Cond.value, h1, h2, h3, h4, g1, g2, g3, g4, g5, g6]
def isCode : Jvm.Cond → Bool
  | .code _ _ _ _ => true
  | _ => false
theorem all_split {L : List Jvm.Cond} {P : Jvm.Cond → Bool} (h1 : L.all (fun c => isCode c || P c) = true) (h2 : ∀ c ∈ L.filter isCode, P c = true) : L.all P = true := by
  refine List.all_eq_true.mpr fun c hc => ?_
  have h := List.all_eq_true.mp h1 c hc
  rcases Bool.eq_false_or_eq_true (isCode c) with hi | hi
  · exact h2 c (List.mem_filter.mpr ⟨hc, hi⟩)
  · simpa [hi] using h
set_option maxRecDepth 65536 in
theorem w_c0 : (Jvm.Cond.code x code maxLocals ret).before args0 about1 = true := code_word (m := ⟨1, 1⟩) (meth := k1m1) (c := k1c1) (by decide +kernel) rfl rfl rfl (by decide +kernel)
set_option maxRecDepth 65536 in
theorem w_c1 : (Jvm.Cond.code ({ cls := "com/example/defnot/defnot/CuckooStash", name := "<init>", desc := "(I)V" } : Jvm.MethodName) prog_8_method_2_code (3 : Nat) (Option.none : Option Jvm.ClassFile.FieldType)).before args0 about1 = true := code_word (m := ⟨2, 1⟩) (meth := k2m1) (c := k2c1) (by decide +kernel) rfl rfl rfl (by decide +kernel)
set_option maxRecDepth 65536 in
theorem w_c2 : (Jvm.Cond.code ({ cls := "java/lang/Object", name := "<init>", desc := "()V" } : Jvm.MethodName) object_method_1_code (1 : Nat) (Option.none : Option Jvm.ClassFile.FieldType)).before args0 about1 = true := code_word (m := ⟨0, 0⟩) (meth := k0m0) (c := k0c0) (by decide +kernel) rfl rfl rfl (by decide +kernel)
set_option maxRecDepth 65536 in
theorem w_c3 : (Jvm.Cond.code ({ cls := "com/example/defnot/defnot/CuckooStash", name := "places", desc := "(I)I" } : Jvm.MethodName) prog_8_method_13_code (2 : Nat) (Option.some Jvm.ClassFile.FieldType.int)).before args0 about1 = true := code_word (m := ⟨2, 6⟩) (meth := k2m6) (c := k2c6) (by decide +kernel) rfl rfl rfl (by decide +kernel)
set_option maxRecDepth 65536 in
theorem w_c4 : (Jvm.Cond.code ({ cls := "com/example/defnot/defnot/CuckooStash", name := "bytes", desc := "()J" } : Jvm.MethodName) prog_8_method_6_code (1 : Nat) (Option.some Jvm.ClassFile.FieldType.long)).before args0 about1 = true := code_word (m := ⟨2, 2⟩) (meth := k2m2) (c := k2c2) (by decide +kernel) rfl rfl rfl (by decide +kernel)
set_option maxRecDepth 65536 in
theorem w_c5 : (Jvm.Cond.code ({ cls := "com/example/defnot/defnot/CuckooStashBytesPinLaw", name := "expected", desc := "(I)J" } : Jvm.MethodName) method_3_code (4 : Nat) (Option.some Jvm.ClassFile.FieldType.long)).before args0 about1 = true := code_word (m := ⟨1, 2⟩) (meth := k1m2) (c := k1c2) (by decide +kernel) rfl rfl rfl (by decide +kernel)
set_option maxRecDepth 65536 in
theorem w_c6 : (Jvm.Cond.code ({ cls := "com/example/defnot/defnot/CuckooStash", name := "add", desc := "(JJ)V" } : Jvm.MethodName) prog_8_method_7_code (6 : Nat) (Option.none : Option Jvm.ClassFile.FieldType)).before args0 about1 = true := code_word (m := ⟨2, 3⟩) (meth := k2m3) (c := k2c3) (by decide +kernel) rfl rfl rfl (by decide +kernel)
set_option maxRecDepth 65536 in
theorem w_c7 : (Jvm.Cond.code ({ cls := "com/example/defnot/defnot/CuckooStash", name := "find", desc := "(J)I" } : Jvm.MethodName) prog_8_method_10_code (5 : Nat) (Option.some Jvm.ClassFile.FieldType.int)).before args0 about1 = true := code_word (m := ⟨2, 4⟩) (meth := k2m4) (c := k2c4) (by decide +kernel) rfl rfl rfl (by decide +kernel)
set_option maxRecDepth 65536 in
theorem w_c8 : (Jvm.Cond.code ({ cls := "com/example/defnot/defnot/MurmurHash3", name := "finish", desc := "(J)J" } : Jvm.MethodName) prog_26_method_7_code (4 : Nat) (Option.some Jvm.ClassFile.FieldType.long)).before args0 about1 = true := code_word (m := ⟨3, 1⟩) (meth := k3m1) (c := k3c1) (by decide +kernel) rfl rfl rfl (by decide +kernel)
set_option maxRecDepth 65536 in
theorem w_c9 : (Jvm.Cond.code ({ cls := "java/lang/Math", name := "max", desc := "(II)I" } : Jvm.MethodName) jdk_29_method_65_code (2 : Nat) (Option.some Jvm.ClassFile.FieldType.int)).before args0 about1 = true := code_word (m := ⟨4, 2⟩) (meth := k4m2) (c := k4c2) (by decide +kernel) rfl rfl rfl (by decide +kernel)
set_option maxRecDepth 65536 in
theorem w_c10 : (Jvm.Cond.code ({ cls := "java/lang/Math", name := "multiplyExact", desc := "(II)I" } : Jvm.MethodName) jdk_29_method_28_code (4 : Nat) (Option.some Jvm.ClassFile.FieldType.int)).before args0 about1 = true := code_word (m := ⟨4, 1⟩) (meth := k4m1) (c := k4c1) (by decide +kernel) rfl rfl rfl (by decide +kernel)
set_option maxRecDepth 65536 in
theorem w_c11 : (Jvm.Cond.code ({ cls := "com/example/defnot/defnot/CuckooStash", name := "grow", desc := "()V" } : Jvm.MethodName) prog_8_method_12_code (5 : Nat) (Option.none : Option Jvm.ClassFile.FieldType)).before args0 about1 = true := code_word (m := ⟨2, 5⟩) (meth := k2m5) (c := k2c5) (by decide +kernel) rfl rfl rfl (by decide +kernel)
def codes1 : List Jvm.Cond := [Jvm.Cond.code x code maxLocals ret, Jvm.Cond.code ({ cls := "com/example/defnot/defnot/CuckooStash", name := "<init>", desc := "(I)V" } : Jvm.MethodName) prog_8_method_2_code (3 : Nat) (Option.none : Option Jvm.ClassFile.FieldType), Jvm.Cond.code ({ cls := "java/lang/Object", name := "<init>", desc := "()V" } : Jvm.MethodName) object_method_1_code (1 : Nat) (Option.none : Option Jvm.ClassFile.FieldType), Jvm.Cond.code ({ cls := "com/example/defnot/defnot/CuckooStash", name := "places", desc := "(I)I" } : Jvm.MethodName) prog_8_method_13_code (2 : Nat) (Option.some Jvm.ClassFile.FieldType.int), Jvm.Cond.code ({ cls := "com/example/defnot/defnot/CuckooStash", name := "bytes", desc := "()J" } : Jvm.MethodName) prog_8_method_6_code (1 : Nat) (Option.some Jvm.ClassFile.FieldType.long), Jvm.Cond.code ({ cls := "com/example/defnot/defnot/CuckooStashBytesPinLaw", name := "expected", desc := "(I)J" } : Jvm.MethodName) method_3_code (4 : Nat) (Option.some Jvm.ClassFile.FieldType.long), Jvm.Cond.code ({ cls := "com/example/defnot/defnot/CuckooStash", name := "add", desc := "(JJ)V" } : Jvm.MethodName) prog_8_method_7_code (6 : Nat) (Option.none : Option Jvm.ClassFile.FieldType), Jvm.Cond.code ({ cls := "com/example/defnot/defnot/CuckooStash", name := "find", desc := "(J)I" } : Jvm.MethodName) prog_8_method_10_code (5 : Nat) (Option.some Jvm.ClassFile.FieldType.int), Jvm.Cond.code ({ cls := "com/example/defnot/defnot/MurmurHash3", name := "finish", desc := "(J)J" } : Jvm.MethodName) prog_26_method_7_code (4 : Nat) (Option.some Jvm.ClassFile.FieldType.long), Jvm.Cond.code ({ cls := "java/lang/Math", name := "max", desc := "(II)I" } : Jvm.MethodName) jdk_29_method_65_code (2 : Nat) (Option.some Jvm.ClassFile.FieldType.int), Jvm.Cond.code ({ cls := "java/lang/Math", name := "multiplyExact", desc := "(II)I" } : Jvm.MethodName) jdk_29_method_28_code (4 : Nat) (Option.some Jvm.ClassFile.FieldType.int), Jvm.Cond.code ({ cls := "com/example/defnot/defnot/CuckooStash", name := "grow", desc := "()V" } : Jvm.MethodName) prog_8_method_12_code (5 : Nat) (Option.none : Option Jvm.ClassFile.FieldType)]
set_option maxRecDepth 65536 in
theorem codes_eq : words1.filter isCode = codes1 := rfl
theorem w_codes : ∀ c ∈ words1.filter isCode, c.before args0 about1 = true := by
  rw [codes_eq]
  intro c hc
  simp only [codes1, List.mem_cons, List.not_mem_nil, or_false] at hc
  rcases hc with rfl | rfl | rfl | rfl | rfl | rfl | rfl | rfl | rfl | rfl | rfl | rfl
  · exact w_c0
  · exact w_c1
  · exact w_c2
  · exact w_c3
  · exact w_c4
  · exact w_c5
  · exact w_c6
  · exact w_c7
  · exact w_c8
  · exact w_c9
  · exact w_c10
  · exact w_c11
set_option maxRecDepth 65536 in
theorem w_t1 : (words1.take 24).all (fun c => isCode c || c.before args0 about1) = true := by decide +kernel
set_option maxRecDepth 65536 in
theorem w_t2 : ((words1.drop 24).take 24).all (fun c => isCode c || c.before args0 about1) = true := by decide +kernel
set_option maxRecDepth 65536 in
theorem w_t3 : ((words1.drop 24).drop 24).all (fun c => isCode c || c.before args0 about1) = true := by decide +kernel
theorem w_tables : (allAtoms (Jvm.Cond.code x code maxLocals ret :: tables_1)).before args0 about1 = true := by
  rw [allAtoms_all]
  show words1.all (fun c => c.before args0 about1) = true
  refine all_split ?_ w_codes
  rw [← List.take_append_drop 24 words1, List.all_append, w_t1, ← List.take_append_drop 24 (words1.drop 24), List.all_append, w_t2, w_t3]
  rfl
set_option maxRecDepth 65536 in
theorem w_case : (Jvm.Cond.and given_1 narrow_1).before args0 about1 = true := by decide +kernel
theorem w_applies : (headSpec (Jvm.Cond.code x code maxLocals ret :: tables_1) room_1).applies x e0.platform about1 = true :=
  (Spec.applies_iff w_frames).mpr ⟨w_running, w_runnable, w_alone, w_named, w_hears, w_ripe, w_room, w_tables⟩
theorem atStart : AtStart classFile x code maxLocals ret World_1 tables_1 room_1 Calls_1 rest_1 Pre_1 launch0 p0 e0 about1 theMethod args0 below0 :=
  ⟨lists_1, trivial, launch0.admits_env _ _ _, launch0.least_env, fairChoices_fair.cas, fairChoices_fair.clock, w_frames, w_args, w_heap, w_applies, trivial, trivial, w_case⟩
end start1
theorem witness_1 : WitnessClaimed_1 := ⟨start1.p0, start1.e0, start1.about1, start1.theMethod, start1.args0, start1.below0, start1.atStart⟩
end Jvm.Pilot.@@N@@
