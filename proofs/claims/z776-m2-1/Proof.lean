import JvmDerived
import JvmDerived.Pilot.@@N@@Statement
import JvmDerived.Pilot.@@N@@Code
set_option linter.unusedVariables false
set_option linter.unusedSimpArgs false
namespace Jvm.RoadKit
open Sem ClassFile Op Lib Jvm.Stand Jvm.Free Jvm.LawKit
section New
variable {p : Program} {l : Launch} {e : Env} {R : Room} {s : State} {m : MethodId} {args : Array Value} {below : List Frame} {meth : Method} {c : Code} {T : State} {locs : List Loc} {cells slots : Nat}
theorem retI (X : Stand p l e R s m args below meth c T locs cells slots) (hx : p.tables.exec = Jvm.exec) {pc : Nat} {Ls : Array Slot} {z : Int32} {rest : List Value} (hret : meth.sig.returnType = some .int) (hd : decode c.code pc = .ok (.ireturn, 1)) {fs : List Frame}
    (hl : ∀ (f : JFrame) (acts : List Action), f.method = m → f.locked = none → f.entered = [] → (doReturn e (T.setTop f) acts (some (.int z))).1 = T.setFrames fs) : Steps p.tables e below (T.setTop (mkF m pc Ls (.int z :: rest))) (T.setFrames fs) := by
  have hm' : T.vm.method? m = some meth := X.method'
  have hn : narrow .int (.int z) = .int z := rfl
  show Steps p.tables e below (T.setTop { method := m, pc := pc, locals := Ls, stack := _ :: rest, locked := none }) _
  jvm_step X.here [X.here.top, hx, hd, hm', hret, hn]
  first | (intro acts; rw [hl _ acts rfl rfl rfl]) | rw [hl _ _ rfl rfl rfl]
  exact Steps.refl _
end New
end Jvm.RoadKit
@@BLOCK:NumsL.lean.txt@@
namespace Jvm.Pilot.@@N@@
open Jvm Jvm.ClassFile Sem Op Lib Jvm.Free Jvm.Stand Jvm.LawKit Jvm.RoadKit Bundle Jvm.Pilot.@@N@@.Jvm.D
def own_End (p : Program) (e : Env) (below : List Frame) (P : Outcome → State → Prop) (S : State) : Prop :=
  ∃ s₂ o, Steps p.tables e below S s₂ ∧ s₂.status = .running ∧ Ended s₂ below o ∧ P o s₂
abbrev own_Met (l : Launch) (Z : State) (y : MethodName) (bytes : ByteArray) (maxL : Nat) (rt : Option FieldType) (ws : List Jvm.Cond) (rm : Room) (as' : Array Value) (h0 : Heap) (Q : Option Value → Heap → List Loc → Prop) : Prop :=
  MetFree l y (head1 (Jvm.Cond.code y bytes maxL rt :: ws) rm) (fun a U => a = as' ∧ Z.Warmed39 U.vm ∧ U.heap = h0) (fun _ _ _ _ _ => True) (fun _ U o U' => ∃ v L, o = .returned v ∧ Q v U'.heap L ∧ FrameEnd U o U' L rm.cells rm.slots)
def own_Ok (Q : Option Value → Heap → List Loc → Prop) (s : State) (kc ks : Nat) (P : Outcome → State → Prop) : Prop := ∀ v U L, Q v U.heap L → FrameEnd s (.returned v) U L kc ks → P (.returned v) U
section Own
variable {p : Program} {l : Launch} {e : Env} {R : Room} {s : State} {m : MethodId} {args : Array Value} {below : List Frame} {meth : Method} {c : Code} {T : State} {locs : List Loc} {cells slots : Nat} {Z : State} {a0 : Array Value} {h : Heap} {P : Outcome → State → Prop}
theorem own_st {S S' : State} (q : ∀ t, Steps p.tables e below S' t → Steps p.tables e below S t) (k : own_End p e below P S') : own_End p e below P S := by
  obtain ⟨a, b, c, d⟩ := k
  exact ⟨a, b, q _ c, d⟩
theorem own_tr {S S' : State} (q : Steps p.tables e below S S') (k : own_End p e below P S') : own_End p e below P S := own_st (fun _ r => q.trans r) k
theorem own_enter {y : MethodName} {bytes : ByteArray} {maxL : Nat} {rt : Option FieldType} {ws : List Jvm.Cond} {rm : Room} {as' : Array Value} {h0 : Heap} {Q : Option Value → Heap → List Loc → Prop} (hpl : plainFor y = true)
    (body : ∀ (p : Program) (e : Env) (s : State) (m : MethodId) (below : List Frame) (meth : Method) (c : Code) (s₁ : State) (P : Outcome → State → Prop), p.tables.exec = Jvm.exec → c.code = bytes → c.maxLocals = maxL → meth.sig.returnType = rt → meth.locks = false → s.vm.findClass y.cls = some m.cls → meth.name = y.name → Z.Warmed39 s.vm →
      Stand p l e rm s m as' below meth c s₁ [] 0 0 → s₁.heap = h0 → own_Ok Q s rm.cells rm.slots P → own_End p e below P (s₁.setTop (entryFrame m as' maxL))) :
    own_Met l Z y bytes maxL rt ws rm as' h0 Q := by
  refine MetFree.of_bodySF hpl hisR ?_
  intro p e s m args below meth c s₁ Bd hml0 hP hK
  obtain ⟨rfl, hZ, hh⟩ := hP
  exact body p e s m below meth c s₁ _ Bd.exec Bd.bytes hml0 Bd.returns Bd.notSynchronized (findClass_of_methodNamed Bd.named) (name_of_methodNamed Bd.named Bd.method).1 hZ (Stand.of_body Bd) (by rw [← hh, Bd.state]; rfl) (fun v U L q f => ⟨v, L, rfl, q, f⟩)
theorem own_cast {g g' : JFrame} (q : g = g') (k : own_End p e below P (T.setTop g')) : own_End p e below P (T.setTop g) := q ▸ k
theorem own_retI (X : Stand p l e R s m args below meth c T locs cells slots) (hx : p.tables.exec = Jvm.exec) (hlk : meth.locks = false) {kc ks : Nat} {Q : Option Value → Heap → List Loc → Prop} (hP : own_Ok Q s kc ks P)
    {pc : Nat} {Ls : Array Slot} {z : Int32} {rest : List Value} (hret : meth.sig.returnType = some .int) (hd : decode c.code pc = .ok (.ireturn, 1)) (h1 : cells ≤ kc) (h2 : slots ≤ ks) (hq : Q (some (.int z)) T.heap locs) : own_End p e below P (T.setTop (mkF m pc Ls (.int z :: rest))) := by
  obtain ⟨fs, hr, hrun, hended, hW, hsame⟩ := X.leave (v := some (.int z)) (fun h => by rw [hret] at h; cases h) hlk
  exact ⟨_, _, retI X hx hret hd hr, hrun, hended, hP _ _ locs hq ⟨⟨_, rfl⟩, hW, hsame.mono h1 h2⟩⟩
theorem own_retN (X : Stand p l e R s m args below meth c T locs cells slots) (hx : p.tables.exec = Jvm.exec) (hlk : meth.locks = false) {kc ks : Nat} {Q : Option Value → Heap → List Loc → Prop} (hP : own_Ok Q s kc ks P)
    {pc : Nat} {Ls : Array Slot} {z : Int32} {t : FieldType} {rest : List Value} (ht : t = .boolean ∨ t = .byte ∨ t = .char ∨ t = .short) (hret : meth.sig.returnType = some t) (hd : decode c.code pc = .ok (.ireturn, 1)) (h1 : cells ≤ kc) (h2 : slots ≤ ks) (hq : Q (some (.int (nar t z))) T.heap locs) : own_End p e below P (T.setTop (mkF m pc Ls (.int z :: rest))) := by
  obtain ⟨fs, hr, hrun, hended, hW, hsame⟩ := X.leave (v := some (.int (nar t z))) (fun h => by rw [hret] at h; cases h) hlk
  exact ⟨_, _, retN X hx hret ht hd hr, hrun, hended, hP _ _ locs hq ⟨⟨_, rfl⟩, hW, hsame.mono h1 h2⟩⟩
theorem own_retL (X : Stand p l e R s m args below meth c T locs cells slots) (hx : p.tables.exec = Jvm.exec) (hlk : meth.locks = false) {kc ks : Nat} {Q : Option Value → Heap → List Loc → Prop} (hP : own_Ok Q s kc ks P)
    {pc : Nat} {Ls : Array Slot} {z : Int64} {rest : List Value} (hret : meth.sig.returnType = some .long) (hd : decode c.code pc = .ok (.lreturn, 1)) (h1 : cells ≤ kc) (h2 : slots ≤ ks) (hq : Q (some (.long z)) T.heap locs) : own_End p e below P (T.setTop (mkF m pc Ls (.long z :: rest))) := by
  obtain ⟨fs, hr, hrun, hended, hW, hsame⟩ := X.leave (v := some (.long z)) (fun h => by rw [hret] at h; cases h) hlk
  exact ⟨_, _, retOut X hx hret rfl (Or.inr (Or.inl ⟨rfl, rfl, z, rfl⟩)) hd hr, hrun, hended, hP _ _ locs hq ⟨⟨_, rfl⟩, hW, hsame.mono h1 h2⟩⟩
theorem own_retR (X : Stand p l e R s m args below meth c T locs cells slots) (hx : p.tables.exec = Jvm.exec) (hlk : meth.locks = false) {kc ks : Nat} {Q : Option Value → Heap → List Loc → Prop} (hP : own_Ok Q s kc ks P)
    {pc : Nat} {Ls : Array Slot} {w : Value} {t : FieldType} {rest : List Value} (hw : w.isRef = true) (ht : t.isReference = true) (hret : meth.sig.returnType = some t) (hd : decode c.code pc = .ok (.areturn, 1)) (h1 : cells ≤ kc) (h2 : slots ≤ ks) (hq : Q (some w) T.heap locs) : own_End p e below P (T.setTop (mkF m pc Ls (w :: rest))) := by
  obtain ⟨fs, hr, hrun, hended, hW, hsame⟩ := X.leave (v := some w) (fun h => by rw [hret] at h; cases h) hlk
  have hn : narrow t w = w := by rcases ref_cases hw with rfl | ⟨a, rfl⟩ <;> cases t <;> rfl
  exact ⟨_, _, retOut X hx hret hn (Or.inr (Or.inr (Or.inr (Or.inr ⟨rfl, ht, hw⟩)))) hd hr, hrun, hended, hP _ _ locs hq ⟨⟨_, rfl⟩, hW, hsame.mono h1 h2⟩⟩
theorem own_retV (X : Stand p l e R s m args below meth c T locs cells slots) (hx : p.tables.exec = Jvm.exec) (hlk : meth.locks = false) {kc ks : Nat} {Q : Option Value → Heap → List Loc → Prop} (hP : own_Ok Q s kc ks P)
    {pc : Nat} {Ls : Array Slot} (hret : meth.sig.returnType = none) (hd : decode c.code pc = .ok (.return_, 1)) (h1 : cells ≤ kc) (h2 : slots ≤ ks) (hq : Q none T.heap locs) : own_End p e below P (T.setTop (mkF m pc Ls [])) := by
  obtain ⟨fs, hr, hrun, hended, hW, hsame⟩ := X.leave (v := none) (fun _ => rfl) hlk
  exact ⟨_, _, X.returnOut hx hret hd hr, hrun, hended, hP _ _ locs hq ⟨⟨_, rfl⟩, hW, hsame.mono h1 h2⟩⟩
theorem own_callS (X : Stand p l e R s m args below meth c T locs cells slots) (hx : p.tables.exec = Jvm.exec) (hZ : Z.Warmed39 s.vm) {own : String} {index : Nat} {y : MethodName} {bytes : ByteArray} {maxL : Nat} {rt : Option FieldType} {rm : Room} {as' : Array Value} {Q : Option Value → Heap → List Loc → Prop}
    (hown : s.vm.findClass own = some m.cls) (w1 : (Jvm.Cond.methodLink own index y).before a0 Z = true) (w2 : (Jvm.Cond.static y).before a0 Z = true) (w3 : (Jvm.Cond.initialized y.cls).before a0 Z = true) (w4 : (Jvm.Cond.code y bytes maxL rt).before a0 Z = true) (hy : y.cls ≠ "java/lang/invoke/MethodHandle" ∧ y.cls ≠ "java/lang/invoke/VarHandle")
    (hM : own_Met l Z y bytes maxL rt [] rm as' h Q) (W : Nat) (hf : rm.frames + 1 ≤ R.frames) (hl : W + (maxL + 11) + rm.locals ≤ R.locals) (eT : T.heap = h) (hc : cells + rm.cells ≤ R.cells) (hs : slots + rm.slots ≤ R.slots)
    {g : JFrame} (hg : g.method = m) (hsize : g.locals.size = c.maxLocals) {argsL rest : List Value} (ha : argsL.toArray = as') (hlen : ∀ sig, parseMethodDescriptor y.desc = some sig → argsL.length = sig.parameters.length) (hstack : g.stack = argsL.reverse ++ rest) (hW : 2 * g.monitorRoom + (rest.map fun v => v.category).sum ≤ W) (hdg : decode c.code g.pc = .ok (.invokestatic index, 3))
    (k : ∀ v T' L, Stand p l e R s m args below meth c T' (locs ++ L) (cells + rm.cells) (slots + rm.slots) → Q v T'.heap L → own_End p e below P (T'.setTop { g with pc := g.pc + 3, stack := v.toList ++ rest })) : own_End p e below P (T.setTop g) := by
  obtain ⟨v, vm₁, ⟨T', L', k', n'⟩, -, X', ⟨L, hQ, h1, h2, h3⟩, st⟩ := Jvm.LawKit.callS X hx hown (mvT hZ w1) (mvT hZ w2) (mvT hZ w3) (mvT hZ w4) hy (backOf (W := W) hM hZ w4 w3 hf hl) hg hsize hlen hstack hW hdg (fun _ _ => ⟨ha, eT, hc, hs⟩)
  dsimp only [Pt.U, Pt.locs, Pt.cells, Pt.slots] at X' h1 h2 h3 st hQ
  subst h1 h2 h3
  exact own_st st (k v T' L X' hQ)
theorem own_callI (X : Stand p l e R s m args below meth c T locs cells slots) (hx : p.tables.exec = Jvm.exec) (hZ : Z.Warmed39 s.vm) {own : String} {index : Nat} {y : MethodName} {bytes : ByteArray} {maxL : Nat} {rm : Room} {as' : Array Value} {Q : Option Value → Heap → List Loc → Prop}
    (hy1 : y.name = "<init>") (hown : s.vm.findClass own = some m.cls) (w1 : (Jvm.Cond.methodLink own index y).before a0 Z = true) (w2 : (Jvm.Cond.instanceMethod y).before a0 Z = true) (w3 : (Jvm.Cond.initialized y.cls).before a0 Z = true) (w4 : (Jvm.Cond.code y bytes maxL none).before a0 Z = true) (hy : y.cls ≠ "java/lang/invoke/MethodHandle" ∧ y.cls ≠ "java/lang/invoke/VarHandle")
    (hM : own_Met l Z y bytes maxL none [] rm as' h Q) (W : Nat) (hf : rm.frames + 1 ≤ R.frames) (hl : W + (maxL + 11) + rm.locals ≤ R.locals) (eT : T.heap = h) (hc : cells + rm.cells ≤ R.cells) (hs : slots + rm.slots ≤ R.slots)
    {g : JFrame} (hg : g.method = m) (hsize : g.locals.size = c.maxLocals) {a : Addr} {argsL rest : List Value} (ha : (Value.ref a :: argsL).toArray = as') (hlen : ∀ sig, parseMethodDescriptor y.desc = some sig → argsL.length = sig.parameters.length) (hstack : g.stack = argsL.reverse ++ .ref a :: rest) (hW : 2 * g.monitorRoom + (rest.map fun v => v.category).sum ≤ W) (hdg : decode c.code g.pc = .ok (.invokespecial index, 3))
    (k : ∀ v T' L, Stand p l e R s m args below meth c T' (locs ++ L) (cells + rm.cells) (slots + rm.slots) → Q v T'.heap L → own_End p e below P (T'.setTop { g with pc := g.pc + 3, stack := v.toList ++ rest })) : own_End p e below P (T.setTop g) := by
  obtain ⟨v, vm₁, ⟨T', L', k', n'⟩, -, X', ⟨L, hQ, h1, h2, h3⟩, st⟩ := X.specialBack hx hy1 hown (mvT hZ w1) (mvT hZ w2) (mvT hZ w4) hy (backOf (W := W) hM hZ w4 w3 hf hl) hg hsize (Steps.refl _) hlen hstack hW hdg (fun _ _ => ⟨ha, eT, hc, hs⟩)
  dsimp only [Pt.U, Pt.locs, Pt.cells, Pt.slots] at X' h1 h2 h3 st hQ
  subst h1 h2 h3
  exact own_tr st (k v T' L X' hQ)
theorem own_callV (X : Stand p l e R s m args below meth c T locs cells slots) (hx : p.tables.exec = Jvm.exec) (hZ : Z.Warmed39 s.vm) {own C : String} {index : Nat} {y z : MethodName} {bytes : ByteArray} {maxL : Nat} {rt : Option FieldType} {rm : Room} {as' : Array Value} {Q : Option Value → Heap → List Loc → Prop}
    (hown : s.vm.findClass own = some m.cls) (w1 : (Jvm.Cond.methodLink own index y).before a0 Z = true) (w2 : (Jvm.Cond.declares y).before a0 Z = true) (hnf : NotFace s y) (w5 : (Jvm.Cond.selects C y z).before a0 Z = true) (w6 : (Jvm.Cond.instanceMethod z).before a0 Z = true) (w3 : (Jvm.Cond.initialized z.cls).before a0 Z = true) (w4 : (Jvm.Cond.code z bytes maxL rt).before a0 Z = true) (hy : y.cls ≠ "java/lang/invoke/MethodHandle" ∧ y.cls ≠ "java/lang/invoke/VarHandle")
    {a : Addr} (E : Exa Z h a C) (hM : own_Met l Z z bytes maxL rt [] rm as' h Q) (W : Nat) (hf : rm.frames + 1 ≤ R.frames) (hl : W + (maxL + 11) + rm.locals ≤ R.locals) (eT : T.heap = h) (hc : cells + rm.cells ≤ R.cells) (hs : slots + rm.slots ≤ R.slots)
    {g : JFrame} (hg : g.method = m) (hsize : g.locals.size = c.maxLocals) {argsL rest : List Value} (ha : (Value.ref a :: argsL).toArray = as') (hlen : ∀ sig, parseMethodDescriptor y.desc = some sig → argsL.length = sig.parameters.length) (hstack : g.stack = argsL.reverse ++ .ref a :: rest) (hW : 2 * g.monitorRoom + (rest.map fun v => v.category).sum ≤ W) (hdg : decode c.code g.pc = .ok (.invokevirtual index, 3))
    (k : ∀ v T' L, Stand p l e R s m args below meth c T' (locs ++ L) (cells + rm.cells) (slots + rm.slots) → Q v T'.heap L → own_End p e below P (T'.setTop { g with pc := g.pc + 3, stack := v.toList ++ rest })) : own_End p e below P (T.setTop g) := by
  obtain ⟨cB, kB, q1, q2, q3⟩ := isOf hZ eT E
  obtain ⟨v, vm₁, ⟨T', L', k', n'⟩, -, X', ⟨L, hQ, h1, h2, h3⟩, st⟩ := X.virtualBack hx (y := y) (z := z) hown (mvT hZ w1) (mvT hZ w2) hnf (mvT hZ w5) (mvT hZ w6) hy (backOf (W := W) hM hZ w4 w3 hf hl) q1 q3 hg hsize (Steps.refl _) hlen hstack hW hdg (fun _ _ => ⟨ha, eT, hc, hs⟩)
  dsimp only [Pt.U, Pt.locs, Pt.cells, Pt.slots] at X' h1 h2 h3 st hQ
  subst h1 h2 h3
  exact own_tr st (k v T' L X' hQ)
theorem own_callU (X : Stand p l e R s m args below meth c T locs cells slots) (hx : p.tables.exec = Jvm.exec) (hZ : Z.Warmed39 s.vm) {own C owner : String} {index : Nat} {x y : MethodName} {bytes : ByteArray} {maxL : Nat} {rt : Option FieldType} {rm : Room} {as' : Array Value} {Q : Option Value → Heap → List Loc → Prop}
    (hown : s.vm.findClass own = some m.cls) (w1 : (Jvm.Cond.methodLink own index x).before a0 Z = true) (w2 : (Jvm.Cond.sameMethod x.cls owner x.name x.desc).before a0 Z = true) (w7 : (Jvm.Cond.declares ⟨owner, x.name, x.desc⟩).before a0 Z = true) (hy : owner ≠ "java/lang/invoke/MethodHandle" ∧ owner ≠ "java/lang/invoke/VarHandle") (w5 : (Jvm.Cond.selects C x y).before a0 Z = true) (w6 : (Jvm.Cond.instanceMethod y).before a0 Z = true) (w3 : (Jvm.Cond.initialized y.cls).before a0 Z = true) (w4 : (Jvm.Cond.code y bytes maxL rt).before a0 Z = true)
    {a : Addr} (E : Exa Z h a C) (hM : own_Met l Z y bytes maxL rt [] rm as' h Q) (W : Nat) (hf : rm.frames + 1 ≤ R.frames) (hl : W + (maxL + 11) + rm.locals ≤ R.locals) (eT : T.heap = h) (hc : cells + rm.cells ≤ R.cells) (hs : slots + rm.slots ≤ R.slots)
    {g : JFrame} (hg : g.method = m) (hsize : g.locals.size = c.maxLocals) {argsL rest : List Value} (ha : (Value.ref a :: argsL).toArray = as') (hlen : ∀ sig, parseMethodDescriptor x.desc = some sig → argsL.length = sig.parameters.length) (hstack : g.stack = argsL.reverse ++ .ref a :: rest) (hW : 2 * g.monitorRoom + (rest.map fun v => v.category).sum ≤ W) (hdg : decode c.code g.pc = .ok (.invokevirtual index, 3))
    (k : ∀ v T' L, Stand p l e R s m args below meth c T' (locs ++ L) (cells + rm.cells) (slots + rm.slots) → Q v T'.heap L → own_End p e below P (T'.setTop { g with pc := g.pc + 3, stack := v.toList ++ rest })) : own_End p e below P (T.setTop g) := by
  obtain ⟨cB, kB, q1, q2, q3⟩ := isOf hZ eT E
  obtain ⟨v, vm₁, ⟨T', L', k', n'⟩, -, X', ⟨L, hQ, h1, h2, h3⟩, st⟩ := X.virtualBackUp hx (x := x) (y := y) hown (mvT hZ w1) (mvT hZ w2) (mvT hZ w7) hy (mvT hZ w5) (mvT hZ w6) (backOf (W := W) hM hZ w4 w3 hf hl) q1 q3 hg hsize (Steps.refl _) hlen hstack hW hdg (fun _ _ => ⟨ha, eT, hc, hs⟩)
  dsimp only [Pt.U, Pt.locs, Pt.cells, Pt.slots] at X' h1 h2 h3 st hQ
  subst h1 h2 h3
  exact own_tr st (k v T' L X' hQ)
theorem own_nst {a : Addr} {C : String} (E : Exa Z h a C) : ∃ c : Cell, h[a]? = some c ∧ c.vm.isStatics = false := by obtain ⟨c, k, h1, -, -, h4, -⟩ := E; exact ⟨c, h1, h4⟩
theorem own_StaKeep {h' : Heap} {C n d : String} {v : Value} {ws : List Addr} (F : Sta Z h C n d v) (K : Keep h h' ws) (q : ∀ w ∈ ws, ∃ c : Cell, h[w]? = some c ∧ c.vm.isStatics = false) : Sta Z h' C n d v := by
  obtain ⟨cf, i, k, f, st, cell, h1, h2, h3, h4, h5, h6, h7⟩ := F
  refine ⟨cf, i, k, f, st, cell, h1, h2, h3, h4, K.2.1 st cell h5 (fun hm => ?_), h6, h7⟩
  obtain ⟨c', e1, e2⟩ := q st hm
  cases h5.symm.trans e1
  rw [h6] at e2; cases e2
theorem own_pop2L (X : Stand p l e R s m args below meth c T locs cells slots) (hx : p.tables.exec = Jvm.exec) {pc : Nat} {Ls : Array Slot} {rest : List Value} {x : Int64} (hd : decode c.code pc = .ok (.pop2, 1)) (k : own_End p e below P (T.setTop (mkF m (pc + 1) Ls rest))) : own_End p e below P (T.setTop (mkF m pc Ls (.long x :: rest))) :=
  own_st (fun _ r => by
    show Steps p.tables e below (T.setTop { method := m, pc := pc, locals := Ls, stack := .long x :: rest, locked := none }) _
    jvm_step X.here [X.here.top, hx, hd, Value.category]
    exact r) k
theorem own_sel {y z : MethodName} (hz : z.cls = y.cls) (hy : y.cls ≠ "java/lang/invoke/MethodHandle" ∧ y.cls ≠ "java/lang/invoke/VarHandle") (w5 : (Jvm.Cond.selects y.cls z z).before args s = true) (wi : (Jvm.Cond.instanceMethod y).before args s = true) (hp : s.PrivateAt y) : (Jvm.Cond.selects y.cls y y).before args s = true := by
  obtain ⟨mk, mm, hn, hm, -, -⟩ := Cond.instanceMethod_spec wi
  obtain ⟨c2, r2, m2, -, -, q3, -, kP, hk, hi⟩ := Cond.selects_spec w5
  have a1 := findClass_of_methodNamed hn
  have a2 := findClass_of_methodNamed q3
  rw [hz] at a2
  have e : m2.cls = mk.cls := Option.some.inj (a2.symm.trans a1)
  rw [e] at hk
  have hs : selectMethod {} s.vm mk.cls mk = .method mk := selectMethod_private hm (hp mk mm hn hm)
  have hf := State.methodFound?_of_named hn hy
  simp [Cond.before, Cond.holds, Cond.value, a1, hf, hn, hs, hk, hi]
theorem own_callP (X : Stand p l e R s m args below meth c T locs cells slots) (hx : p.tables.exec = Jvm.exec) (hZ : Z.Warmed39 s.vm) {own : String} {index : Nat} {y z : MethodName} {bytes : ByteArray} {maxL : Nat} {rt : Option FieldType} {rm : Room} {as' : Array Value} {Q : Option Value → Heap → List Loc → Prop}
    (hown : s.vm.findClass own = some m.cls) (w1 : (Jvm.Cond.methodLink own index y).before a0 Z = true) (w2 : (Jvm.Cond.instanceMethod y).before a0 Z = true) (hz : z.cls = y.cls) (w5 : (Jvm.Cond.selects y.cls z z).before a0 Z = true) (w6 : (Jvm.Cond.privateMethod y).before a0 Z = true) (w3 : (Jvm.Cond.initialized y.cls).before a0 Z = true) (w4 : (Jvm.Cond.code y bytes maxL rt).before a0 Z = true) (hy : y.cls ≠ "java/lang/invoke/MethodHandle" ∧ y.cls ≠ "java/lang/invoke/VarHandle")
    {C : String} {a : Addr} (E : Exa Z h a C) (hM : own_Met l Z y bytes maxL rt [] rm as' h Q) (W : Nat) (hf : rm.frames + 1 ≤ R.frames) (hl : W + (maxL + 11) + rm.locals ≤ R.locals) (eT : T.heap = h) (hc : cells + rm.cells ≤ R.cells) (hs : slots + rm.slots ≤ R.slots)
    {g : JFrame} (hg : g.method = m) (hsize : g.locals.size = c.maxLocals) {argsL rest : List Value} (ha : (Value.ref a :: argsL).toArray = as') (hlen : ∀ sig, parseMethodDescriptor y.desc = some sig → argsL.length = sig.parameters.length) (hstack : g.stack = argsL.reverse ++ .ref a :: rest) (hW : 2 * g.monitorRoom + (rest.map fun v => v.category).sum ≤ W) (hdg : decode c.code g.pc = .ok (.invokevirtual index, 3))
    (k : ∀ v T' L, Stand p l e R s m args below meth c T' (locs ++ L) (cells + rm.cells) (slots + rm.slots) → Q v T'.heap L → own_End p e below P (T'.setTop { g with pc := g.pc + 3, stack := v.toList ++ rest })) : own_End p e below P (T.setTop g) := by
  obtain ⟨cq, q1, q2⟩ := E.cell
  have hp : s.PrivateAt y := Cond.privateMethod_at (mvP hZ w6 (args := args))
  obtain ⟨v, vm₁, ⟨T', L', k', n'⟩, -, X', ⟨L, hQ, h1, h2, h3⟩, st⟩ := X.privateBack hx (y := y) hown (mvT hZ w1) (mvT hZ w2) (own_sel hz hy (mvT hZ w5) (mvT hZ w2) hp) hp (mvT hZ w4) hy (backOf (W := W) hM hZ w4 w3 hf hl) hg hsize (Steps.refl _) (a := a) (by rw [eT]; exact q1) q2 hlen hstack hW hdg (fun _ _ => ⟨ha, eT, hc, hs⟩)
  dsimp only [Pt.U, Pt.locs, Pt.cells, Pt.slots] at X' h1 h2 h3 st hQ
  subst h1 h2 h3
  exact own_tr st (k v T' L X' hQ)
theorem own_tsw (X : Stand p l e R s m args below meth c T locs cells slots) (hx : p.tables.exec = Jvm.exec) {pc len pc' : Nat} {Ls : Array Slot} {rest : List Value} {dflt low high o : Int} {offs : Array Int} {i : Int32} (hd : decode c.code pc = .ok (.tableswitch dflt low high offs, len)) (hin : ¬ (i.toInt < low ∨ i.toInt > high)) (hoff : offs[(i.toInt - low).toNat]? = some o) (ho : 0 ≤ (pc : Int) + o) (hp : ((pc : Int) + o).toNat = pc')
    (k : own_End p e below P (T.setTop (mkF m pc' Ls rest))) : own_End p e below P (T.setTop (mkF m pc Ls (.int i :: rest))) :=
  own_st (fun _ r => XS.tswIn (g := mkF m pc Ls (.int i :: rest)) X.here hx rfl rfl hd rfl hin hoff ho hp r) k
theorem own_lt {x y : Int64} : lcmpW x y < 0 ↔ x < y := by rw [lcW]; exact lc_lt x y
theorem own_gt {x y : Int64} : 0 < lcmpW x y ↔ y < x := by rw [lcW]; exact lc_gt x y
theorem own_eq {x y : Int64} : lcmpW x y = 0 ↔ x = y := by rw [lcW]; exact lc_eq x y
theorem own_eqInt {first : State} {o : Option Outcome} {idx : List Nat} {t : Term} {k : Int32} (q : (Jvm.Cond.eq t (.int k)).value args first o s idx = some true) : t.eval args first o idx s = some (.int k) := by
  obtain ⟨x, y, e1, e2, k1, k2⟩ := cmp_v (Or.inl q)
  rw [Term.int_eval] at e2
  cases e2
  obtain ⟨z, rfl⟩ := k2
  rw [e1, gotT (Cond.eq_ints e1 (Term.int_eval k)) q]
end Own
/-! walks that may load String constants: the end is the wide one -/
def own_OkW (Q : Option Value → Heap → List Loc → Prop) (s : State) (kc ks : Nat) (P : Outcome → State → Prop) : Prop := ∀ v U L, Q v U.heap L → ReturnedEndW s (.returned v) U L kc ks → P (.returned v) U
abbrev own_MetW (l : Launch) (Z : State) (y : MethodName) (bytes : ByteArray) (maxL : Nat) (rt : Option FieldType) (ws : List Jvm.Cond) (rm : Room) (as' : Array Value) (h0 : Heap) (Q : Option Value → Heap → List Loc → Prop) : Prop :=
  MetFree l y (head1 (Jvm.Cond.code y bytes maxL rt :: ws) rm) (fun a U => a = as' ∧ Z.Warmed39 U.vm ∧ U.heap = h0) (fun _ _ _ _ _ => True) (fun _ U o U' => ∃ v L, o = .returned v ∧ Q v U'.heap L ∧ ReturnedEndW U o U' L rm.cells rm.slots)
section OwnW
variable {p : Program} {l : Launch} {e : Env} {R : Room} {s : State} {m : MethodId} {args : Array Value} {below : List Frame} {meth : Method} {c : Code} {T : State} {locs : List Loc} {cells slots : Nat} {Z : State} {a0 : Array Value} {h : Heap} {P : Outcome → State → Prop} {vm0 : Vm} {k0 : Nat}
theorem own_enterW {y : MethodName} {bytes : ByteArray} {maxL : Nat} {rt : Option FieldType} {ws : List Jvm.Cond} {rm : Room} {as' : Array Value} {h0 : Heap} {Q : Option Value → Heap → List Loc → Prop} (hpl : plainFor y = true)
    (body : ∀ (p : Program) (e : Env) (s : State) (m : MethodId) (below : List Frame) (meth : Method) (c : Code) (s₁ : State) (P : Outcome → State → Prop) (vm0 : Vm) (k0 : Nat), p.tables.exec = Jvm.exec → c.code = bytes → c.maxLocals = maxL → meth.sig.returnType = rt → meth.locks = false → (s.setVm vm0).vm.findClass y.cls = some m.cls → meth.name = y.name → Z.Warmed39 (s.setVm vm0).vm →
      Stand p l e rm (s.setVm vm0) m as' below meth c s₁ [] 0 0 → s₁.heap = h0 → s.Since vm0 k0 → k0 ≤ h0.size → own_OkW Q s rm.cells rm.slots P → own_End p e below P (s₁.setTop (entryFrame m as' maxL))) :
    own_MetW l Z y bytes maxL rt ws rm as' h0 Q := by
  refine MetFree.of_bodySF hpl hisR ?_
  intro p e s m args below meth c s₁ Bd hml0 hP hK
  obtain ⟨rfl, hZ, hh⟩ := hP
  exact body p e s m below meth c s₁ _ s.vm s.heap.size Bd.exec Bd.bytes hml0 Bd.returns Bd.notSynchronized (findClass_of_methodNamed Bd.named) (name_of_methodNamed Bd.named Bd.method).1 hZ (Stand.of_body Bd) (by rw [← hh, Bd.state]; rfl) ((State.WarmedH.refl s).since _) (by rw [hh]; exact Nat.le_refl _) (fun v U L q f => ⟨v, L, rfl, q, f⟩)
theorem own_monoW {U : State} {o : Outcome} {L : List Loc} {k n k' n' : Nat} (q : ReturnedEndW s o U L k n) (h1 : k ≤ k') (h2 : n ≤ n') : ReturnedEndW s o U L k' n' := ⟨q.1, q.2.1, q.2.2.1, q.2.2.2.mono h1 h2⟩
theorem own_retVW (X : Stand p l e R (s.setVm vm0) m args below meth c T locs cells slots) (hS : s.Since vm0 k0) (hk : k0 ≤ h.size) (eT : T.heap = h) (hx : p.tables.exec = Jvm.exec) (hlk : meth.locks = false) {kc ks : Nat} {Q : Option Value → Heap → List Loc → Prop} (hP : own_OkW Q s kc ks P)
    {pc : Nat} {Ls : Array Slot} (hret : meth.sig.returnType = none) (hd : decode c.code pc = .ok (.return_, 1)) (h1 : cells ≤ kc) (h2 : slots ≤ ks) (hq : Q none T.heap locs) : own_End p e below P (T.setTop (mkF m pc Ls [])) := by
  obtain ⟨fs, hr, hrun, hended, hW⟩ := X.leaveW hS (by rw [eT]; exact hk) (v := none) (fun _ => rfl) hlk
  exact ⟨_, _, X.returnOut hx hret hd hr, hrun, hended, hP _ _ locs hq (own_monoW hW h1 h2)⟩
theorem own_retNW (X : Stand p l e R (s.setVm vm0) m args below meth c T locs cells slots) (hS : s.Since vm0 k0) (hk : k0 ≤ h.size) (eT : T.heap = h) (hx : p.tables.exec = Jvm.exec) (hlk : meth.locks = false) {kc ks : Nat} {Q : Option Value → Heap → List Loc → Prop} (hP : own_OkW Q s kc ks P)
    {pc : Nat} {Ls : Array Slot} {z : Int32} {t : FieldType} {rest : List Value} (ht : t = .boolean ∨ t = .byte ∨ t = .char ∨ t = .short) (hret : meth.sig.returnType = some t) (hd : decode c.code pc = .ok (.ireturn, 1)) (h1 : cells ≤ kc) (h2 : slots ≤ ks) (hq : Q (some (.int (nar t z))) T.heap locs) : own_End p e below P (T.setTop (mkF m pc Ls (.int z :: rest))) := by
  obtain ⟨fs, hr, hrun, hended, hW⟩ := X.leaveW hS (by rw [eT]; exact hk) (v := some (.int (nar t z))) (fun h => by rw [hret] at h; cases h) hlk
  exact ⟨_, _, retN X hx hret ht hd hr, hrun, hended, hP _ _ locs hq (own_monoW hW h1 h2)⟩
theorem own_retIW (X : Stand p l e R (s.setVm vm0) m args below meth c T locs cells slots) (hS : s.Since vm0 k0) (hk : k0 ≤ h.size) (eT : T.heap = h) (hx : p.tables.exec = Jvm.exec) (hlk : meth.locks = false) {kc ks : Nat} {Q : Option Value → Heap → List Loc → Prop} (hP : own_OkW Q s kc ks P)
    {pc : Nat} {Ls : Array Slot} {z : Int32} {rest : List Value} (hret : meth.sig.returnType = some .int) (hd : decode c.code pc = .ok (.ireturn, 1)) (h1 : cells ≤ kc) (h2 : slots ≤ ks) (hq : Q (some (.int z)) T.heap locs) : own_End p e below P (T.setTop (mkF m pc Ls (.int z :: rest))) := by
  obtain ⟨fs, hr, hrun, hended, hW⟩ := X.leaveW hS (by rw [eT]; exact hk) (v := some (.int z)) (fun h => by rw [hret] at h; cases h) hlk
  exact ⟨_, _, retI X hx hret hd hr, hrun, hended, hP _ _ locs hq (own_monoW hW h1 h2)⟩
theorem own_retRW (X : Stand p l e R (s.setVm vm0) m args below meth c T locs cells slots) (hS : s.Since vm0 k0) (hk : k0 ≤ h.size) (eT : T.heap = h) (hx : p.tables.exec = Jvm.exec) (hlk : meth.locks = false) {kc ks : Nat} {Q : Option Value → Heap → List Loc → Prop} (hP : own_OkW Q s kc ks P)
    {pc : Nat} {Ls : Array Slot} {w : Value} {t : FieldType} {rest : List Value} (hw : w.isRef = true) (ht : t.isReference = true) (hret : meth.sig.returnType = some t) (hd : decode c.code pc = .ok (.areturn, 1)) (h1 : cells ≤ kc) (h2 : slots ≤ ks) (hq : Q (some w) T.heap locs) : own_End p e below P (T.setTop (mkF m pc Ls (w :: rest))) := by
  obtain ⟨fs, hr, hrun, hended, hW⟩ := X.leaveW hS (by rw [eT]; exact hk) (v := some w) (fun h => by rw [hret] at h; cases h) hlk
  have hn : narrow t w = w := by rcases ref_cases hw with rfl | ⟨a, rfl⟩ <;> cases t <;> rfl
  exact ⟨_, _, retOut X hx hret hn (Or.inr (Or.inr (Or.inr (Or.inr ⟨rfl, ht, hw⟩)))) hd hr, hrun, hended, hP _ _ locs hq (own_monoW hW h1 h2)⟩
theorem own_callIW (X : Stand p l e R (s.setVm vm0) m args below meth c T locs cells slots) (hS : s.Since vm0 k0) (hk : k0 ≤ h.size) (hx : p.tables.exec = Jvm.exec) (hZ : Z.Warmed39 (s.setVm vm0).vm) {own : String} {index : Nat} {y : MethodName} {bytes : ByteArray} {maxL : Nat} {rm : Room} {as' : Array Value} {Q : Option Value → Heap → List Loc → Prop}
    (hy1 : y.name = "<init>") (hown : (s.setVm vm0).vm.findClass own = some m.cls) (w1 : (Jvm.Cond.methodLink own index y).before a0 Z = true) (w2 : (Jvm.Cond.instanceMethod y).before a0 Z = true) (w3 : (Jvm.Cond.initialized y.cls).before a0 Z = true) (w4 : (Jvm.Cond.code y bytes maxL none).before a0 Z = true) (hy : y.cls ≠ "java/lang/invoke/MethodHandle" ∧ y.cls ≠ "java/lang/invoke/VarHandle")
    (hM : own_MetW l Z y bytes maxL none [] rm as' h Q) (W : Nat) (hf : rm.frames + 1 ≤ R.frames) (hl : W + (maxL + 11) + rm.locals ≤ R.locals) (eT : T.heap = h) (hc : cells + rm.cells ≤ R.cells) (hs : slots + rm.slots ≤ R.slots)
    {g : JFrame} (hg : g.method = m) (hsize : g.locals.size = c.maxLocals) {a : Addr} {argsL rest : List Value} (ha : (Value.ref a :: argsL).toArray = as') (hlen : ∀ sig, parseMethodDescriptor y.desc = some sig → argsL.length = sig.parameters.length) (hstack : g.stack = argsL.reverse ++ .ref a :: rest) (hW : 2 * g.monitorRoom + (rest.map fun v => v.category).sum ≤ W) (hdg : decode c.code g.pc = .ok (.invokespecial index, 3))
    (k : ∀ v T' L, Stand p l e R (s.setVm T'.vm) m args below meth c T' (locs ++ L) (cells + rm.cells) (slots + rm.slots) → Q v T'.heap L → s.Since T'.vm T'.heap.size → Z.Warmed39 (s.setVm T'.vm).vm → (s.setVm T'.vm).vm.findClass own = some m.cls → own_End p e below P (T'.setTop { g with pc := g.pc + 3, stack := v.toList ++ rest })) : own_End p e below P (T.setTop g) := by
  obtain ⟨v, vm₁, ⟨T', L', k', n'⟩, -, X', hS', hg', ⟨L, hQ, h1, h2, h3⟩, st⟩ := X.specialBackS hx hy1 hown (mvT hZ w1) (mvT hZ w2) (mvT hZ w4) hy (backOfS (W := W) hM hZ w4 w3 hf hl) hg hsize (Steps.refl _) hlen hstack hW hdg (fun _ _ => ⟨ha, eT, hc, hs⟩)
  dsimp only [Pt.U, Pt.locs, Pt.cells, Pt.slots] at X' h1 h2 h3 st hQ hS' hg'
  subst h1 h2 h3
  obtain ⟨q1, q2, q3, q4⟩ := rebS hS (by rw [← eT] at hk; exact hk) X' hS' hg' hZ hown
  exact own_tr st (k v T' L q1 hQ q2 q3 q4)
theorem own_callSW (X : Stand p l e R (s.setVm vm0) m args below meth c T locs cells slots) (hS : s.Since vm0 k0) (hk : k0 ≤ h.size) (hx : p.tables.exec = Jvm.exec) (hZ : Z.Warmed39 (s.setVm vm0).vm) {own : String} {index : Nat} {y : MethodName} {bytes : ByteArray} {maxL : Nat} {rt : Option FieldType} {rm : Room} {as' : Array Value} {Q : Option Value → Heap → List Loc → Prop}
    (hown : (s.setVm vm0).vm.findClass own = some m.cls) (w1 : (Jvm.Cond.methodLink own index y).before a0 Z = true) (w2 : (Jvm.Cond.static y).before a0 Z = true) (w3 : (Jvm.Cond.initialized y.cls).before a0 Z = true) (w4 : (Jvm.Cond.code y bytes maxL rt).before a0 Z = true) (hy : y.cls ≠ "java/lang/invoke/MethodHandle" ∧ y.cls ≠ "java/lang/invoke/VarHandle")
    (hM : own_MetW l Z y bytes maxL rt [] rm as' h Q) (W : Nat) (hf : rm.frames + 1 ≤ R.frames) (hl : W + (maxL + 11) + rm.locals ≤ R.locals) (eT : T.heap = h) (hc : cells + rm.cells ≤ R.cells) (hs : slots + rm.slots ≤ R.slots)
    {g : JFrame} (hg : g.method = m) (hsize : g.locals.size = c.maxLocals) {argsL rest : List Value} (ha : argsL.toArray = as') (hlen : ∀ sig, parseMethodDescriptor y.desc = some sig → argsL.length = sig.parameters.length) (hstack : g.stack = argsL.reverse ++ rest) (hW : 2 * g.monitorRoom + (rest.map fun v => v.category).sum ≤ W) (hdg : decode c.code g.pc = .ok (.invokestatic index, 3))
    (k : ∀ v T' L, Stand p l e R (s.setVm T'.vm) m args below meth c T' (locs ++ L) (cells + rm.cells) (slots + rm.slots) → Q v T'.heap L → s.Since T'.vm T'.heap.size → Z.Warmed39 (s.setVm T'.vm).vm → (s.setVm T'.vm).vm.findClass own = some m.cls → own_End p e below P (T'.setTop { g with pc := g.pc + 3, stack := v.toList ++ rest })) : own_End p e below P (T.setTop g) := by
  obtain ⟨v, vm₁, ⟨T', L', k', n'⟩, -, X', hS', hg', ⟨L, hQ, h1, h2, h3⟩, st⟩ := callSS X hx hown (mvT hZ w1) (mvT hZ w2) (mvT hZ w3) (mvT hZ w4) hy (backOfS (W := W) hM hZ w4 w3 hf hl) hg hsize hlen hstack hW hdg (fun _ _ => ⟨ha, eT, hc, hs⟩)
  dsimp only [Pt.U, Pt.locs, Pt.cells, Pt.slots] at X' h1 h2 h3 st hQ hS' hg'
  subst h1 h2 h3
  obtain ⟨q1, q2, q3, q4⟩ := rebS hS (by rw [← eT] at hk; exact hk) X' hS' hg' hZ hown
  exact own_tr st (k v T' L q1 hQ q2 q3 q4)
end OwnW
theorem own_wS {Z : State} {a0 : Array Value} (hw : ∀ d ∈ tables_1, d.before a0 Z = true) : ∀ a ∈ Bundle.stringAtoms, a.before a0 Z = true := by
  intro d hd
  simp only [Bundle.stringAtoms, List.mem_cons, List.not_mem_nil, or_false] at hd
  rcases hd with rfl | rfl | rfl | rfl | rfl | rfl | rfl
  · exact (hw _ (List.mem_of_getElem? (i := 7) rfl))
  · exact (hw _ (List.mem_of_getElem? (i := 8) rfl))
  · exact (hw _ (List.mem_of_getElem? (i := 9) rfl))
  · exact (hw _ (List.mem_of_getElem? (i := 10) rfl))
  · exact (hw _ (List.mem_of_getElem? (i := 11) rfl))
  · exact (hw _ (List.mem_of_getElem? (i := 12) rfl))
  · exact (hw _ (List.mem_of_getElem? (i := 13) rfl))
theorem own_d1_0 : decode jdk_71_method_1_code 0 = .ok (.aload_n 0, 1) := by decide +kernel
theorem own_d1_1 : decode jdk_71_method_1_code 1 = .ok (.invokespecial 1, 3) := by decide +kernel
theorem own_d1_4 : decode jdk_71_method_1_code 4 = .ok (.return_, 1) := by decide +kernel
theorem own_ef1 (m : MethodId) (o0 : Addr) : entryFrame m #[(.ref o0)] 1 = mkF m 0 #[.val (.ref o0)] [] := by first | (simp [entryFrame, mkF, argsToLocals, Value.category]; done) | rfl
theorem own_pn_java_util_AbstractMap : plainName "java/util/AbstractMap" = true := by first | (simp [plainName, overriddenIn]; done) | decide +kernel
set_option maxRecDepth 65536 in
set_option maxHeartbeats 40000000 in
theorem own_m1 (l : Launch) (Z : State) (a0 : Array Value) (hw : ∀ d ∈ tables_1, d.before a0 Z = true) (ws : List Jvm.Cond) (o0 : Addr)  (h0 : Heap) (n0 : Nat) (Z0 : n0 ≤ h0.size)  :
    own_Met l Z (⟨"java/util/AbstractMap", "<init>", "()V"⟩ : MethodName) jdk_71_method_1_code 1 none ws ({ frames := 1, cells := 0, slots := 0, locals := 12 } : Room) #[(.ref o0)] h0 (fun (v : Option Value) (h : Heap) (L : List Loc) => v = none ∧ Fr n0 L ∧ h = h0) := by
  refine own_enter (plainFor_of_name own_pn_java_util_AbstractMap) ?_
  intro p e s m below meth c s₁ P hx hby hml hrt hlk hown hnm hZ X0 e0 hP
  have N0 := Fr.nil n0
  have K0 := Keep.refl h0 []
  have hml' : c.maxLocals = 1 := hml
  refine own_cast (own_ef1 m o0) ?_
  show own_End p e below P (s₁.setTop (mkF m 0 #[.val (.ref o0)] []))
  refine own_st (fun _ => XS.aloadN X0.here hx rfl (hb hby own_d1_0) rfl rfl) ?_
  show own_End p e below P (s₁.setTop (mkF m 1 #[.val (.ref o0)] [(.ref o0)]))
  obtain ⟨T1, X1, e1, st1⟩ := initO X0 hx hZ hown (hw _ (List.mem_of_getElem? (i := 52) rfl)) (hw _ (List.mem_of_getElem? (i := 18) rfl)) (hw _ (List.mem_of_getElem? (i := 19) rfl)) e0 (g := (mkF m 1 #[.val (.ref o0)] [(.ref o0)])) rfl (by rw [hml']; rfl) rfl (hb hby own_d1_1) (by decide) (W := 0) (by show 2 * 0 + _ ≤ _; exact Nat.le_of_eq rfl) (by decide)
  refine own_st (fun _ => st1 _) ?_
  show own_End p e below P (T1.setTop (mkF m 4 #[.val (.ref o0)] []))
  exact own_retV X1 hx hlk hP hrt (hb hby own_d1_4) (by decide) (by decide) ⟨rfl, N0, e1⟩
theorem own_d2_0 : decode jdk_22_method_1_code 0 = .ok (.aload_n 0, 1) := by decide +kernel
theorem own_d2_1 : decode jdk_22_method_1_code 1 = .ok (.invokespecial 1, 3) := by decide +kernel
theorem own_d2_4 : decode jdk_22_method_1_code 4 = .ok (.return_, 1) := by decide +kernel
theorem own_ef2 (m : MethodId) (o0 : Addr) : entryFrame m #[(.ref o0)] 1 = mkF m 0 #[.val (.ref o0)] [] := by first | (simp [entryFrame, mkF, argsToLocals, Value.category]; done) | rfl
theorem own_pn_java_util_AbstractCollection : plainName "java/util/AbstractCollection" = true := by first | (simp [plainName, overriddenIn]; done) | decide +kernel
set_option maxRecDepth 65536 in
set_option maxHeartbeats 40000000 in
theorem own_m2 (l : Launch) (Z : State) (a0 : Array Value) (hw : ∀ d ∈ tables_1, d.before a0 Z = true) (ws : List Jvm.Cond) (o0 : Addr)  (h0 : Heap) (n0 : Nat) (Z0 : n0 ≤ h0.size)  :
    own_Met l Z (⟨"java/util/AbstractCollection", "<init>", "()V"⟩ : MethodName) jdk_22_method_1_code 1 none ws ({ frames := 1, cells := 0, slots := 0, locals := 12 } : Room) #[(.ref o0)] h0 (fun (v : Option Value) (h : Heap) (L : List Loc) => v = none ∧ Fr n0 L ∧ h = h0) := by
  refine own_enter (plainFor_of_name own_pn_java_util_AbstractCollection) ?_
  intro p e s m below meth c s₁ P hx hby hml hrt hlk hown hnm hZ X0 e0 hP
  have N0 := Fr.nil n0
  have K0 := Keep.refl h0 []
  have hml' : c.maxLocals = 1 := hml
  refine own_cast (own_ef2 m o0) ?_
  show own_End p e below P (s₁.setTop (mkF m 0 #[.val (.ref o0)] []))
  refine own_st (fun _ => XS.aloadN X0.here hx rfl (hb hby own_d2_0) rfl rfl) ?_
  show own_End p e below P (s₁.setTop (mkF m 1 #[.val (.ref o0)] [(.ref o0)]))
  obtain ⟨T1, X1, e1, st1⟩ := initO X0 hx hZ hown (hw _ (List.mem_of_getElem? (i := 80) rfl)) (hw _ (List.mem_of_getElem? (i := 18) rfl)) (hw _ (List.mem_of_getElem? (i := 19) rfl)) e0 (g := (mkF m 1 #[.val (.ref o0)] [(.ref o0)])) rfl (by rw [hml']; rfl) rfl (hb hby own_d2_1) (by decide) (W := 0) (by show 2 * 0 + _ ≤ _; exact Nat.le_of_eq rfl) (by decide)
  refine own_st (fun _ => st1 _) ?_
  show own_End p e below P (T1.setTop (mkF m 4 #[.val (.ref o0)] []))
  exact own_retV X1 hx hlk hP hrt (hb hby own_d2_4) (by decide) (by decide) ⟨rfl, N0, e1⟩
theorem own_d3_0 : decode jdk_30_method_1_code 0 = .ok (.aload_n 0, 1) := by decide +kernel
theorem own_d3_1 : decode jdk_30_method_1_code 1 = .ok (.invokespecial 1, 3) := by decide +kernel
theorem own_d3_4 : decode jdk_30_method_1_code 4 = .ok (.return_, 1) := by decide +kernel
theorem own_ef3 (m : MethodId) (o0 : Addr) : entryFrame m #[(.ref o0)] 1 = mkF m 0 #[.val (.ref o0)] [] := by first | (simp [entryFrame, mkF, argsToLocals, Value.category]; done) | rfl
theorem own_pn_java_lang_Record : plainName "java/lang/Record" = true := by first | (simp [plainName, overriddenIn]; done) | decide +kernel
set_option maxRecDepth 65536 in
set_option maxHeartbeats 40000000 in
theorem own_m3 (l : Launch) (Z : State) (a0 : Array Value) (hw : ∀ d ∈ tables_1, d.before a0 Z = true) (ws : List Jvm.Cond) (o0 : Addr)  (h0 : Heap) (n0 : Nat) (Z0 : n0 ≤ h0.size)  :
    own_Met l Z (⟨"java/lang/Record", "<init>", "()V"⟩ : MethodName) jdk_30_method_1_code 1 none ws ({ frames := 1, cells := 0, slots := 0, locals := 12 } : Room) #[(.ref o0)] h0 (fun (v : Option Value) (h : Heap) (L : List Loc) => v = none ∧ Fr n0 L ∧ h = h0) := by
  refine own_enter (plainFor_of_name own_pn_java_lang_Record) ?_
  intro p e s m below meth c s₁ P hx hby hml hrt hlk hown hnm hZ X0 e0 hP
  have N0 := Fr.nil n0
  have K0 := Keep.refl h0 []
  have hml' : c.maxLocals = 1 := hml
  refine own_cast (own_ef3 m o0) ?_
  show own_End p e below P (s₁.setTop (mkF m 0 #[.val (.ref o0)] []))
  refine own_st (fun _ => XS.aloadN X0.here hx rfl (hb hby own_d3_0) rfl rfl) ?_
  show own_End p e below P (s₁.setTop (mkF m 1 #[.val (.ref o0)] [(.ref o0)]))
  obtain ⟨T1, X1, e1, st1⟩ := initO X0 hx hZ hown (hw _ (List.mem_of_getElem? (i := 174) rfl)) (hw _ (List.mem_of_getElem? (i := 18) rfl)) (hw _ (List.mem_of_getElem? (i := 19) rfl)) e0 (g := (mkF m 1 #[.val (.ref o0)] [(.ref o0)])) rfl (by rw [hml']; rfl) rfl (hb hby own_d3_1) (by decide) (W := 0) (by show 2 * 0 + _ ≤ _; exact Nat.le_of_eq rfl) (by decide)
  refine own_st (fun _ => st1 _) ?_
  show own_End p e below P (T1.setTop (mkF m 4 #[.val (.ref o0)] []))
  exact own_retV X1 hx hlk hP hrt (hb hby own_d3_4) (by decide) (by decide) ⟨rfl, N0, e1⟩
theorem own_d4_0 : decode prog_143_method_1_code 0 = .ok (.aload_n 0, 1) := by decide +kernel
theorem own_d4_1 : decode prog_143_method_1_code 1 = .ok (.invokespecial 1, 3) := by decide +kernel
theorem own_d4_4 : decode prog_143_method_1_code 4 = .ok (.aload_n 0, 1) := by decide +kernel
theorem own_d4_5 : decode prog_143_method_1_code 5 = .ok (.aload_n 1, 1) := by decide +kernel
theorem own_d4_6 : decode prog_143_method_1_code 6 = .ok (.putfield 7, 3) := by decide +kernel
theorem own_d4_9 : decode prog_143_method_1_code 9 = .ok (.return_, 1) := by decide +kernel
theorem own_ef4 (m : MethodId) (o0 : Addr) (o1 : Addr) : entryFrame m #[(.ref o0), (.ref o1)] 2 = mkF m 0 #[.val (.ref o0), .val (.ref o1)] [] := by first | (simp [entryFrame, mkF, argsToLocals, Value.category]; done) | rfl
theorem own_pn_com_example_tallywire_tallywire_rules_LineReader : plainName "com/example/tallywire/tallywire/rules/LineReader" = true := by first | (simp [plainName, overriddenIn]; done) | decide +kernel
set_option maxRecDepth 65536 in
set_option maxHeartbeats 40000000 in
theorem own_m4 (l : Launch) (Z : State) (a0 : Array Value) (hw : ∀ d ∈ tables_1, d.before a0 Z = true) (ws : List Jvm.Cond) (o0 : Addr) (o1 : Addr)  (h0 : Heap) (n0 : Nat) (Z0 : n0 ≤ h0.size) (E_o0 : Exa Z h0 o0 "com/example/tallywire/tallywire/rules/LineReader") (F_o0_name : Fld Z h0 o0 "com/example/tallywire/tallywire/rules/LineReader" "name" "Ljava/lang/String;" .null) (low_o0 : n0 ≤ o0) :
    own_Met l Z (⟨"com/example/tallywire/tallywire/rules/LineReader", "<init>", "(Ljava/lang/String;)V"⟩ : MethodName) prog_143_method_1_code 2 none ws ({ frames := 1, cells := 0, slots := 0, locals := 12 } : Room) #[(.ref o0), (.ref o1)] h0 (fun (v : Option Value) (h : Heap) (L : List Loc) => v = none ∧ Fr n0 L ∧ Keep h0 h [o0] ∧ Exa Z h o0 "com/example/tallywire/tallywire/rules/LineReader") := by
  refine own_enter (plainFor_of_name own_pn_com_example_tallywire_tallywire_rules_LineReader) ?_
  intro p e s m below meth c s₁ P hx hby hml hrt hlk hown hnm hZ X0 e0 hP
  have N0 := Fr.nil n0
  have K0 := Keep.refl h0 [o0]
  have hml' : c.maxLocals = 2 := hml
  refine own_cast (own_ef4 m o0 o1) ?_
  show own_End p e below P (s₁.setTop (mkF m 0 #[.val (.ref o0), .val (.ref o1)] []))
  refine own_st (fun _ => XS.aloadN X0.here hx rfl (hb hby own_d4_0) rfl rfl) ?_
  show own_End p e below P (s₁.setTop (mkF m 1 #[.val (.ref o0), .val (.ref o1)] [(.ref o0)]))
  obtain ⟨T1, X1, e1, st1⟩ := initO X0 hx hZ hown (hw _ (List.mem_of_getElem? (i := 17) rfl)) (hw _ (List.mem_of_getElem? (i := 18) rfl)) (hw _ (List.mem_of_getElem? (i := 19) rfl)) e0 (g := (mkF m 1 #[.val (.ref o0), .val (.ref o1)] [(.ref o0)])) rfl (by rw [hml']; rfl) rfl (hb hby own_d4_1) (by decide) (W := 0) (by show 2 * 0 + _ ≤ _; exact Nat.le_of_eq rfl) (by decide)
  refine own_st (fun _ => st1 _) ?_
  show own_End p e below P (T1.setTop (mkF m 4 #[.val (.ref o0), .val (.ref o1)] []))
  refine own_st (fun _ => XS.aloadN X1.here hx rfl (hb hby own_d4_4) rfl rfl) ?_
  show own_End p e below P (T1.setTop (mkF m 5 #[.val (.ref o0), .val (.ref o1)] [(.ref o0)]))
  refine own_st (fun _ => XS.aloadN X1.here hx rfl (hb hby own_d4_5) rfl rfl) ?_
  show own_End p e below P (T1.setTop (mkF m 6 #[.val (.ref o0), .val (.ref o1)] [(.ref o1), (.ref o0)]))
  obtain ⟨T2, h2, X2, e2, W2, st2⟩ := putF X1 hx hZ hown (host := "") (Or.inl (hw _ (List.mem_of_getElem? (i := 20) rfl))) Via.refl e1 F_o0_name E_o0 (Or.inr ⟨(hw _ (List.mem_of_getElem? (i := 21) rfl)), rfl, hnm⟩) (hw _ (List.mem_of_getElem? (i := 4) rfl)) (ty := (.object "java/lang/String")) (by decide) rfl rfl (g := (mkF m 6 #[.val (.ref o0), .val (.ref o1)] [(.ref o1), (.ref o0)])) rfl rfl (hb hby own_d4_6)
  have N2 := Fr.snoc X2 N0 low_o0
  have K2 := Keep.wr K0 W2 (Or.inl (List.mem_of_getElem? (i := 0) rfl))
  have F2 := F_o0_name.same W2
  refine own_st (fun _ => st2 _) ?_
  show own_End p e below P (T2.setTop (mkF m 9 #[.val (.ref o0), .val (.ref o1)] []))
  have G3 := (E_o0.wr W2)
  have hfin : ((fun (v : Option Value) (h : Heap) (L : List Loc) => v = none ∧ Fr n0 L ∧ Keep h0 h [o0] ∧ Exa Z h o0 "com/example/tallywire/tallywire/rules/LineReader")) none h2 _ := ⟨rfl, N2, K2, G3⟩
  refine own_retV X2 hx hlk hP hrt (hb hby own_d4_9) (by decide) (by decide) ?_
  rw [e2]; exact hfin
theorem own_dhmH_0 : decode jdk_69_method_7_code 0 = .ok (.aload_n 0, 1) := by decide +kernel
theorem own_dhmH_1 : decode jdk_69_method_7_code 1 = .ok (.invokespecial 43, 3) := by decide +kernel
theorem own_pd_V_167 : parseMethodDescriptor "()V" = some ⟨[], none⟩ := by decide +kernel
theorem own_dhmH_4 : decode jdk_69_method_7_code 4 = .ok (.aload_n 0, 1) := by decide +kernel
theorem own_dhmH_5 : decode jdk_69_method_7_code 5 = .ok (.ldc 92, 2) := by decide +kernel
theorem own_dhmH_7 : decode jdk_69_method_7_code 7 = .ok (.putfield 81, 3) := by decide +kernel
theorem own_dhmH_10 : decode jdk_69_method_7_code 10 = .ok (.return_, 1) := by decide +kernel
theorem own_efhmH (m : MethodId) (o0 : Addr) : entryFrame m #[(.ref o0)] 1 = mkF m 0 #[.val (.ref o0)] [] := by first | (simp [entryFrame, mkF, argsToLocals, Value.category]; done) | rfl
theorem own_pn_java_util_HashMap : plainName "java/util/HashMap" = true := by first | (simp [plainName, overriddenIn]; done) | decide +kernel
set_option maxRecDepth 65536 in
set_option maxHeartbeats 40000000 in
theorem own_mhmH (l : Launch) (Z : State) (a0 : Array Value) (hw : ∀ d ∈ tables_1, d.before a0 Z = true) (ws : List Jvm.Cond) (o0 : Addr)  (h0 : Heap) (n0 : Nat) (Z0 : n0 ≤ h0.size) (E_o0 : Exa Z h0 o0 "java/util/HashMap") (F_o0_loadFactor : Fld Z h0 o0 "java/util/HashMap" "loadFactor" "F" (defaultValue .float)) (low_o0 : n0 ≤ o0) :
    own_Met l Z (⟨"java/util/HashMap", "<init>", "()V"⟩ : MethodName) jdk_69_method_7_code 1 none ws ({ frames := 2, cells := 0, slots := 0, locals := 24 } : Room) #[(.ref o0)] h0 (fun (v : Option Value) (h : Heap) (L : List Loc) => v = none ∧ Fr n0 L ∧ Keep h0 h [o0] ∧ Exa Z h o0 "java/util/HashMap" ∧ Fld Z h o0 "java/util/HashMap" "loadFactor" "F" (.float (1061158912 : UInt32))) := by
  refine own_enter (plainFor_of_name own_pn_java_util_HashMap) ?_
  intro p e s m below meth c s₁ P hx hby hml hrt hlk hown hnm hZ X0 e0 hP
  have N0 := Fr.nil n0
  have K0 := Keep.refl h0 [o0]
  have hml' : c.maxLocals = 1 := hml
  refine own_cast (own_efhmH m o0) ?_
  show own_End p e below P (s₁.setTop (mkF m 0 #[.val (.ref o0)] []))
  refine own_st (fun _ => XS.aloadN X0.here hx rfl (hb hby own_dhmH_0) rfl rfl) ?_
  show own_End p e below P (s₁.setTop (mkF m 1 #[.val (.ref o0)] [(.ref o0)]))
  refine own_callI X0 hx hZ (y := (⟨"java/util/AbstractMap", "<init>", "()V"⟩ : MethodName)) rfl hown (hw _ (List.mem_of_getElem? (i := 46) rfl)) (hw _ (List.mem_of_getElem? (i := 47) rfl)) (hw _ (List.mem_of_getElem? (i := 50) rfl)) (hw _ (List.mem_of_getElem? (i := 51) rfl)) (by decide) (own_m1 l Z a0 hw [] o0  h0 n0 (Nat.le_trans Z0 K0.1) ) 0 (by decide) (by decide) e0 (by decide) (by decide) (g := (mkF m 1 #[.val (.ref o0)] [(.ref o0)])) rfl (by rw [hml']; rfl) (a := o0) (argsL := []) (rest := []) rfl (lenOf own_pd_V_167 rfl) rfl (by show 2 * 0 + _ ≤ _; exact Nat.le_of_eq rfl) (hb hby own_dhmH_1) (fun r1 T1 L1 X1 hQ1 => ?_)
  obtain ⟨rfl, Nq1, eq1⟩ := hQ1
  have N1 := Fr.app N0 Nq1
  show own_End p e below P (T1.setTop (mkF m 4 #[.val (.ref o0)] []))
  refine own_st (fun _ => XS.aloadN X1.here hx rfl (hb hby own_dhmH_4) rfl rfl) ?_
  show own_End p e below P (T1.setTop (mkF m 5 #[.val (.ref o0)] [(.ref o0)]))
  refine own_st (fun _ => X1.ldcFloatC hx hown (mvT hZ (hw _ (List.mem_of_getElem? (i := 53) rfl))) (g := (mkF m 5 #[.val (.ref o0)] [(.ref o0)])) rfl (hb hby own_dhmH_5) _) ?_
  show own_End p e below P (T1.setTop (mkF m 7 #[.val (.ref o0)] [(.float (1061158912 : UInt32)), (.ref o0)]))
  obtain ⟨T2, h2, X2, e2, W2, st2⟩ := putF X1 hx hZ hown (host := "") (Or.inl (hw _ (List.mem_of_getElem? (i := 54) rfl))) Via.refl eq1 F_o0_loadFactor E_o0 (Or.inr ⟨(hw _ (List.mem_of_getElem? (i := 118) rfl)), rfl, hnm⟩) (hw _ (List.mem_of_getElem? (i := 115) rfl)) (ty := .float) (by decide) rfl rfl (g := (mkF m 7 #[.val (.ref o0)] [(.float (1061158912 : UInt32)), (.ref o0)])) rfl rfl (hb hby own_dhmH_7)
  have N2 := Fr.snoc X2 N1 low_o0
  have K2 := Keep.wr K0 W2 (Or.inl (List.mem_of_getElem? (i := 0) rfl))
  have F2 := F_o0_loadFactor.same W2
  refine own_st (fun _ => st2 _) ?_
  show own_End p e below P (T2.setTop (mkF m 10 #[.val (.ref o0)] []))
  have G3 := (E_o0.wr W2)
  have hfin : ((fun (v : Option Value) (h : Heap) (L : List Loc) => v = none ∧ Fr n0 L ∧ Keep h0 h [o0] ∧ Exa Z h o0 "java/util/HashMap" ∧ Fld Z h o0 "java/util/HashMap" "loadFactor" "F" (.float (1061158912 : UInt32)))) none h2 _ := ⟨rfl, N2, K2, G3, F2⟩
  refine own_retV X2 hx hlk hP hrt (hb hby own_dhmH_10) (by decide) (by decide) ?_
  rw [e2]; exact hfin
theorem own_dhmL_0 : decode jdk_69_method_7_code 0 = .ok (.aload_n 0, 1) := by decide +kernel
theorem own_dhmL_1 : decode jdk_69_method_7_code 1 = .ok (.invokespecial 43, 3) := by decide +kernel
theorem own_dhmL_4 : decode jdk_69_method_7_code 4 = .ok (.aload_n 0, 1) := by decide +kernel
theorem own_dhmL_5 : decode jdk_69_method_7_code 5 = .ok (.ldc 92, 2) := by decide +kernel
theorem own_dhmL_7 : decode jdk_69_method_7_code 7 = .ok (.putfield 81, 3) := by decide +kernel
theorem own_dhmL_10 : decode jdk_69_method_7_code 10 = .ok (.return_, 1) := by decide +kernel
theorem own_efhmL (m : MethodId) (o0 : Addr) : entryFrame m #[(.ref o0)] 1 = mkF m 0 #[.val (.ref o0)] [] := by first | (simp [entryFrame, mkF, argsToLocals, Value.category]; done) | rfl
set_option maxRecDepth 65536 in
set_option maxHeartbeats 40000000 in
theorem own_mhmL (l : Launch) (Z : State) (a0 : Array Value) (hw : ∀ d ∈ tables_1, d.before a0 Z = true) (ws : List Jvm.Cond) (o0 : Addr)  (h0 : Heap) (n0 : Nat) (Z0 : n0 ≤ h0.size) (E_o0 : Exa Z h0 o0 "java/util/LinkedHashMap") (F_o0_loadFactor : Fld Z h0 o0 "java/util/HashMap" "loadFactor" "F" (defaultValue .float)) (F_o0_putMode : Fld Z h0 o0 "java/util/LinkedHashMap" "putMode" "I" (.int (0 : Int32))) (F_o0_accessOrder : Fld Z h0 o0 "java/util/LinkedHashMap" "accessOrder" "Z" (.int (0 : Int32))) (low_o0 : n0 ≤ o0) :
    own_Met l Z (⟨"java/util/HashMap", "<init>", "()V"⟩ : MethodName) jdk_69_method_7_code 1 none ws ({ frames := 2, cells := 0, slots := 0, locals := 24 } : Room) #[(.ref o0)] h0 (fun (v : Option Value) (h : Heap) (L : List Loc) => v = none ∧ Fr n0 L ∧ Keep h0 h [o0] ∧ Exa Z h o0 "java/util/LinkedHashMap" ∧ Fld Z h o0 "java/util/HashMap" "loadFactor" "F" (.float (1061158912 : UInt32)) ∧ Fld Z h o0 "java/util/LinkedHashMap" "putMode" "I" (.int (0 : Int32)) ∧ Fld Z h o0 "java/util/LinkedHashMap" "accessOrder" "Z" (.int (0 : Int32))) := by
  refine own_enter (plainFor_of_name own_pn_java_util_HashMap) ?_
  intro p e s m below meth c s₁ P hx hby hml hrt hlk hown hnm hZ X0 e0 hP
  have N0 := Fr.nil n0
  have K0 := Keep.refl h0 [o0]
  have hml' : c.maxLocals = 1 := hml
  refine own_cast (own_efhmL m o0) ?_
  show own_End p e below P (s₁.setTop (mkF m 0 #[.val (.ref o0)] []))
  refine own_st (fun _ => XS.aloadN X0.here hx rfl (hb hby own_dhmL_0) rfl rfl) ?_
  show own_End p e below P (s₁.setTop (mkF m 1 #[.val (.ref o0)] [(.ref o0)]))
  refine own_callI X0 hx hZ (y := (⟨"java/util/AbstractMap", "<init>", "()V"⟩ : MethodName)) rfl hown (hw _ (List.mem_of_getElem? (i := 46) rfl)) (hw _ (List.mem_of_getElem? (i := 47) rfl)) (hw _ (List.mem_of_getElem? (i := 50) rfl)) (hw _ (List.mem_of_getElem? (i := 51) rfl)) (by decide) (own_m1 l Z a0 hw [] o0  h0 n0 (Nat.le_trans Z0 K0.1) ) 0 (by decide) (by decide) e0 (by decide) (by decide) (g := (mkF m 1 #[.val (.ref o0)] [(.ref o0)])) rfl (by rw [hml']; rfl) (a := o0) (argsL := []) (rest := []) rfl (lenOf own_pd_V_167 rfl) rfl (by show 2 * 0 + _ ≤ _; exact Nat.le_of_eq rfl) (hb hby own_dhmL_1) (fun r1 T1 L1 X1 hQ1 => ?_)
  obtain ⟨rfl, Nq1, eq1⟩ := hQ1
  have N1 := Fr.app N0 Nq1
  show own_End p e below P (T1.setTop (mkF m 4 #[.val (.ref o0)] []))
  refine own_st (fun _ => XS.aloadN X1.here hx rfl (hb hby own_dhmL_4) rfl rfl) ?_
  show own_End p e below P (T1.setTop (mkF m 5 #[.val (.ref o0)] [(.ref o0)]))
  refine own_st (fun _ => X1.ldcFloatC hx hown (mvT hZ (hw _ (List.mem_of_getElem? (i := 53) rfl))) (g := (mkF m 5 #[.val (.ref o0)] [(.ref o0)])) rfl (hb hby own_dhmL_5) _) ?_
  show own_End p e below P (T1.setTop (mkF m 7 #[.val (.ref o0)] [(.float (1061158912 : UInt32)), (.ref o0)]))
  obtain ⟨T2, h2, X2, e2, W2, st2⟩ := putF X1 hx hZ hown (host := "") (Or.inl (hw _ (List.mem_of_getElem? (i := 54) rfl))) Via.refl eq1 F_o0_loadFactor E_o0 (Or.inr ⟨(hw _ (List.mem_of_getElem? (i := 55) rfl)), rfl, hnm⟩) (hw _ (List.mem_of_getElem? (i := 35) rfl)) (ty := .float) (by decide) rfl rfl (g := (mkF m 7 #[.val (.ref o0)] [(.float (1061158912 : UInt32)), (.ref o0)])) rfl rfl (hb hby own_dhmL_7)
  have N2 := Fr.snoc X2 N1 low_o0
  have K2 := Keep.wr K0 W2 (Or.inl (List.mem_of_getElem? (i := 0) rfl))
  have F2 := F_o0_loadFactor.same W2
  refine own_st (fun _ => st2 _) ?_
  show own_End p e below P (T2.setTop (mkF m 10 #[.val (.ref o0)] []))
  have G3 := (E_o0.wr W2)
  have G4 := (F_o0_putMode.other W2 (Or.inr (slot_ne (Or.inl (hw _ (List.mem_of_getElem? (i := 57) rfl))) (Or.inr (hw _ (List.mem_of_getElem? (i := 55) rfl))) (by decide) (t := .int) (t' := .float) (by decide) (by decide))))
  have G5 := (F_o0_accessOrder.other W2 (Or.inr (slot_ne (Or.inr (hw _ (List.mem_of_getElem? (i := 59) rfl))) (Or.inr (hw _ (List.mem_of_getElem? (i := 55) rfl))) (by decide) (t := .boolean) (t' := .float) (by decide) (by decide))))
  have hfin : ((fun (v : Option Value) (h : Heap) (L : List Loc) => v = none ∧ Fr n0 L ∧ Keep h0 h [o0] ∧ Exa Z h o0 "java/util/LinkedHashMap" ∧ Fld Z h o0 "java/util/HashMap" "loadFactor" "F" (.float (1061158912 : UInt32)) ∧ Fld Z h o0 "java/util/LinkedHashMap" "putMode" "I" (.int (0 : Int32)) ∧ Fld Z h o0 "java/util/LinkedHashMap" "accessOrder" "Z" (.int (0 : Int32)))) none h2 _ := ⟨rfl, N2, K2, G3, F2, G4, G5⟩
  refine own_retV X2 hx hlk hP hrt (hb hby own_dhmL_10) (by decide) (by decide) ?_
  rw [e2]; exact hfin
theorem own_dlhm_0 : decode jdk_94_method_16_code 0 = .ok (.aload_n 0, 1) := by decide +kernel
theorem own_dlhm_1 : decode jdk_94_method_16_code 1 = .ok (.invokespecial 87, 3) := by decide +kernel
theorem own_dlhm_4 : decode jdk_94_method_16_code 4 = .ok (.aload_n 0, 1) := by decide +kernel
theorem own_dlhm_5 : decode jdk_94_method_16_code 5 = .ok (.iconst 0, 1) := by decide +kernel
theorem own_dlhm_6 : decode jdk_94_method_16_code 6 = .ok (.putfield 1, 3) := by decide +kernel
theorem own_dlhm_9 : decode jdk_94_method_16_code 9 = .ok (.aload_n 0, 1) := by decide +kernel
theorem own_dlhm_10 : decode jdk_94_method_16_code 10 = .ok (.iconst 0, 1) := by decide +kernel
theorem own_dlhm_11 : decode jdk_94_method_16_code 11 = .ok (.putfield 64, 3) := by decide +kernel
theorem own_dlhm_14 : decode jdk_94_method_16_code 14 = .ok (.return_, 1) := by decide +kernel
theorem own_eflhm (m : MethodId) (o0 : Addr) : entryFrame m #[(.ref o0)] 1 = mkF m 0 #[.val (.ref o0)] [] := by first | (simp [entryFrame, mkF, argsToLocals, Value.category]; done) | rfl
theorem own_pn_java_util_LinkedHashMap : plainName "java/util/LinkedHashMap" = true := by first | (simp [plainName, overriddenIn]; done) | decide +kernel
set_option maxRecDepth 65536 in
set_option maxHeartbeats 40000000 in
theorem own_mlhm (l : Launch) (Z : State) (a0 : Array Value) (hw : ∀ d ∈ tables_1, d.before a0 Z = true) (ws : List Jvm.Cond) (o0 : Addr)  (h0 : Heap) (n0 : Nat) (Z0 : n0 ≤ h0.size) (E_o0 : Exa Z h0 o0 "java/util/LinkedHashMap") (F_o0_loadFactor : Fld Z h0 o0 "java/util/HashMap" "loadFactor" "F" (defaultValue .float)) (F_o0_putMode : Fld Z h0 o0 "java/util/LinkedHashMap" "putMode" "I" (.int (0 : Int32))) (F_o0_accessOrder : Fld Z h0 o0 "java/util/LinkedHashMap" "accessOrder" "Z" (.int (0 : Int32))) (low_o0 : n0 ≤ o0) :
    own_Met l Z (⟨"java/util/LinkedHashMap", "<init>", "()V"⟩ : MethodName) jdk_94_method_16_code 1 none ws ({ frames := 3, cells := 0, slots := 0, locals := 36 } : Room) #[(.ref o0)] h0 (fun (v : Option Value) (h : Heap) (L : List Loc) => v = none ∧ Fr n0 L ∧ Keep h0 h [o0] ∧ Exa Z h o0 "java/util/LinkedHashMap") := by
  refine own_enter (plainFor_of_name own_pn_java_util_LinkedHashMap) ?_
  intro p e s m below meth c s₁ P hx hby hml hrt hlk hown hnm hZ X0 e0 hP
  have N0 := Fr.nil n0
  have K0 := Keep.refl h0 [o0]
  have hml' : c.maxLocals = 1 := hml
  refine own_cast (own_eflhm m o0) ?_
  show own_End p e below P (s₁.setTop (mkF m 0 #[.val (.ref o0)] []))
  refine own_st (fun _ => XS.aloadN X0.here hx rfl (hb hby own_dlhm_0) rfl rfl) ?_
  show own_End p e below P (s₁.setTop (mkF m 1 #[.val (.ref o0)] [(.ref o0)]))
  refine own_callI X0 hx hZ (y := (⟨"java/util/HashMap", "<init>", "()V"⟩ : MethodName)) rfl hown (hw _ (List.mem_of_getElem? (i := 40) rfl)) (hw _ (List.mem_of_getElem? (i := 41) rfl)) (hw _ (List.mem_of_getElem? (i := 44) rfl)) (hw _ (List.mem_of_getElem? (i := 45) rfl)) (by decide) (own_mhmL l Z a0 hw [] o0  h0 n0 (Nat.le_trans Z0 K0.1) E_o0 F_o0_loadFactor F_o0_putMode F_o0_accessOrder low_o0) 0 (by decide) (by decide) e0 (by decide) (by decide) (g := (mkF m 1 #[.val (.ref o0)] [(.ref o0)])) rfl (by rw [hml']; rfl) (a := o0) (argsL := []) (rest := []) rfl (lenOf own_pd_V_167 rfl) rfl (by show 2 * 0 + _ ≤ _; exact Nat.le_of_eq rfl) (hb hby own_dlhm_1) (fun r1 T1 L1 X1 hQ1 => ?_)
  obtain ⟨rfl, Nq1, Kq1, f0_1, f1_1, f2_1, f3_1⟩ := hQ1
  have N1 := Fr.app N0 Nq1
  have K1 := Keep.trans K0 Kq1 (allS (Or.inl (List.mem_of_getElem? (i := 0) rfl)) all0)
  show own_End p e below P (T1.setTop (mkF m 4 #[.val (.ref o0)] []))
  refine own_st (fun _ => XS.aloadN X1.here hx rfl (hb hby own_dlhm_4) rfl rfl) ?_
  show own_End p e below P (T1.setTop (mkF m 5 #[.val (.ref o0)] [(.ref o0)]))
  refine own_st (fun _ => XS.iconst X1.here hx rfl (hb hby own_dlhm_5)) ?_
  show own_End p e below P (T1.setTop (mkF m 6 #[.val (.ref o0)] [(.int (0 : Int32)), (.ref o0)]))
  obtain ⟨T2, h2, X2, e2, W2, st2⟩ := putF X1 hx hZ hown (host := "") (Or.inl (hw _ (List.mem_of_getElem? (i := 56) rfl))) Via.refl rfl f2_1 f0_1 (Or.inl (hw _ (List.mem_of_getElem? (i := 57) rfl))) (hw _ (List.mem_of_getElem? (i := 35) rfl)) (ty := .int) (by decide) rfl rfl (g := (mkF m 6 #[.val (.ref o0)] [(.int (0 : Int32)), (.ref o0)])) rfl rfl (hb hby own_dlhm_6)
  have N2 := Fr.snoc X2 N1 low_o0
  have K2 := Keep.wr K1 W2 (Or.inl (List.mem_of_getElem? (i := 0) rfl))
  have F2 := f2_1.same W2
  refine own_st (fun _ => st2 _) ?_
  show own_End p e below P (T2.setTop (mkF m 9 #[.val (.ref o0)] []))
  refine own_st (fun _ => XS.aloadN X2.here hx rfl (hb hby own_dlhm_9) rfl rfl) ?_
  show own_End p e below P (T2.setTop (mkF m 10 #[.val (.ref o0)] [(.ref o0)]))
  refine own_st (fun _ => XS.iconst X2.here hx rfl (hb hby own_dlhm_10)) ?_
  show own_End p e below P (T2.setTop (mkF m 11 #[.val (.ref o0)] [(.int (0 : Int32)), (.ref o0)]))
  have G3 := (f3_1.other W2 (Or.inr (slot_ne (Or.inr (hw _ (List.mem_of_getElem? (i := 59) rfl))) (Or.inl (hw _ (List.mem_of_getElem? (i := 57) rfl))) (by decide) (t := .boolean) (t' := .int) (by decide) (by decide))))
  have G4 := (f0_1.wr W2)
  obtain ⟨T5, h5, X5, e5, W5, st5⟩ := putFN X2 hx hZ hown (hw _ (List.mem_of_getElem? (i := 58) rfl)) Via.refl e2 G3 G4 (Or.inr ⟨(hw _ (List.mem_of_getElem? (i := 59) rfl)), rfl, hnm⟩) (hw _ (List.mem_of_getElem? (i := 35) rfl)) (ty := .boolean) (v' := (.int (0 : Int32))) (by decide) rfl (by decide) (g := (mkF m 11 #[.val (.ref o0)] [(.int (0 : Int32)), (.ref o0)])) rfl rfl (hb hby own_dlhm_11)
  have N5 := Fr.snoc X5 N2 low_o0
  have K5 := Keep.wr K2 W5 (Or.inl (List.mem_of_getElem? (i := 0) rfl))
  have F5 := G3.same W5
  refine own_st (fun _ => st5 _) ?_
  show own_End p e below P (T5.setTop (mkF m 14 #[.val (.ref o0)] []))
  have G6 := (G4.wr W5)
  have hfin : ((fun (v : Option Value) (h : Heap) (L : List Loc) => v = none ∧ Fr n0 L ∧ Keep h0 h [o0] ∧ Exa Z h o0 "java/util/LinkedHashMap")) none h5 _ := ⟨rfl, N5, K5, G6⟩
  refine own_retV X5 hx hlk hP hrt (hb hby own_dlhm_14) (by decide) (by decide) ?_
  rw [e5]; exact hfin
theorem own_dabl_0 : decode jdk_39_method_1_code 0 = .ok (.aload_n 0, 1) := by decide +kernel
theorem own_dabl_1 : decode jdk_39_method_1_code 1 = .ok (.invokespecial 1, 3) := by decide +kernel
theorem own_dabl_4 : decode jdk_39_method_1_code 4 = .ok (.aload_n 0, 1) := by decide +kernel
theorem own_dabl_5 : decode jdk_39_method_1_code 5 = .ok (.iconst 0, 1) := by decide +kernel
theorem own_dabl_6 : decode jdk_39_method_1_code 6 = .ok (.putfield 7, 3) := by decide +kernel
theorem own_dabl_9 : decode jdk_39_method_1_code 9 = .ok (.return_, 1) := by decide +kernel
theorem own_efabl (m : MethodId) (o0 : Addr) : entryFrame m #[(.ref o0)] 1 = mkF m 0 #[.val (.ref o0)] [] := by first | (simp [entryFrame, mkF, argsToLocals, Value.category]; done) | rfl
theorem own_pn_java_util_AbstractList : plainName "java/util/AbstractList" = true := by first | (simp [plainName, overriddenIn]; done) | decide +kernel
set_option maxRecDepth 65536 in
set_option maxHeartbeats 40000000 in
theorem own_mabl (l : Launch) (Z : State) (a0 : Array Value) (hw : ∀ d ∈ tables_1, d.before a0 Z = true) (ws : List Jvm.Cond) (o0 : Addr)  (h0 : Heap) (n0 : Nat) (Z0 : n0 ≤ h0.size) (E_o0 : Exa Z h0 o0 "java/util/ArrayList") (F_o0_modCount : Fld Z h0 o0 "java/util/AbstractList" "modCount" "I" (.int (0 : Int32))) (F_o0_elementData : Fld Z h0 o0 "java/util/ArrayList" "elementData" "[Ljava/lang/Object;" .null) (low_o0 : n0 ≤ o0) :
    own_Met l Z (⟨"java/util/AbstractList", "<init>", "()V"⟩ : MethodName) jdk_39_method_1_code 1 none ws ({ frames := 2, cells := 0, slots := 0, locals := 24 } : Room) #[(.ref o0)] h0 (fun (v : Option Value) (h : Heap) (L : List Loc) => v = none ∧ Fr n0 L ∧ Keep h0 h [o0] ∧ Exa Z h o0 "java/util/ArrayList" ∧ Fld Z h o0 "java/util/AbstractList" "modCount" "I" (.int (0 : Int32)) ∧ Fld Z h o0 "java/util/ArrayList" "elementData" "[Ljava/lang/Object;" .null) := by
  refine own_enter (plainFor_of_name own_pn_java_util_AbstractList) ?_
  intro p e s m below meth c s₁ P hx hby hml hrt hlk hown hnm hZ X0 e0 hP
  have N0 := Fr.nil n0
  have K0 := Keep.refl h0 [o0]
  have hml' : c.maxLocals = 1 := hml
  refine own_cast (own_efabl m o0) ?_
  show own_End p e below P (s₁.setTop (mkF m 0 #[.val (.ref o0)] []))
  refine own_st (fun _ => XS.aloadN X0.here hx rfl (hb hby own_dabl_0) rfl rfl) ?_
  show own_End p e below P (s₁.setTop (mkF m 1 #[.val (.ref o0)] [(.ref o0)]))
  refine own_callI X0 hx hZ (y := (⟨"java/util/AbstractCollection", "<init>", "()V"⟩ : MethodName)) rfl hown (hw _ (List.mem_of_getElem? (i := 74) rfl)) (hw _ (List.mem_of_getElem? (i := 75) rfl)) (hw _ (List.mem_of_getElem? (i := 78) rfl)) (hw _ (List.mem_of_getElem? (i := 79) rfl)) (by decide) (own_m2 l Z a0 hw [] o0  h0 n0 (Nat.le_trans Z0 K0.1) ) 0 (by decide) (by decide) e0 (by decide) (by decide) (g := (mkF m 1 #[.val (.ref o0)] [(.ref o0)])) rfl (by rw [hml']; rfl) (a := o0) (argsL := []) (rest := []) rfl (lenOf own_pd_V_167 rfl) rfl (by show 2 * 0 + _ ≤ _; exact Nat.le_of_eq rfl) (hb hby own_dabl_1) (fun r1 T1 L1 X1 hQ1 => ?_)
  obtain ⟨rfl, Nq1, eq1⟩ := hQ1
  have N1 := Fr.app N0 Nq1
  show own_End p e below P (T1.setTop (mkF m 4 #[.val (.ref o0)] []))
  refine own_st (fun _ => XS.aloadN X1.here hx rfl (hb hby own_dabl_4) rfl rfl) ?_
  show own_End p e below P (T1.setTop (mkF m 5 #[.val (.ref o0)] [(.ref o0)]))
  refine own_st (fun _ => XS.iconst X1.here hx rfl (hb hby own_dabl_5)) ?_
  show own_End p e below P (T1.setTop (mkF m 6 #[.val (.ref o0)] [(.int (0 : Int32)), (.ref o0)]))
  obtain ⟨T2, h2, X2, e2, W2, st2⟩ := putF X1 hx hZ hown (host := "") (Or.inl (hw _ (List.mem_of_getElem? (i := 81) rfl))) Via.refl eq1 F_o0_modCount E_o0 (Or.inl (hw _ (List.mem_of_getElem? (i := 82) rfl))) (hw _ (List.mem_of_getElem? (i := 63) rfl)) (ty := .int) (by decide) rfl rfl (g := (mkF m 6 #[.val (.ref o0)] [(.int (0 : Int32)), (.ref o0)])) rfl rfl (hb hby own_dabl_6)
  have N2 := Fr.snoc X2 N1 low_o0
  have K2 := Keep.wr K0 W2 (Or.inl (List.mem_of_getElem? (i := 0) rfl))
  have F2 := F_o0_modCount.same W2
  refine own_st (fun _ => st2 _) ?_
  show own_End p e below P (T2.setTop (mkF m 9 #[.val (.ref o0)] []))
  have G3 := (E_o0.wr W2)
  have G4 := (F_o0_elementData.other W2 (Or.inr (slot_ne (Or.inl (hw _ (List.mem_of_getElem? (i := 85) rfl))) (Or.inl (hw _ (List.mem_of_getElem? (i := 82) rfl))) (by decide) (t := (.array (.object "java/lang/Object"))) (t' := .int) (by decide) (by decide))))
  have hfin : ((fun (v : Option Value) (h : Heap) (L : List Loc) => v = none ∧ Fr n0 L ∧ Keep h0 h [o0] ∧ Exa Z h o0 "java/util/ArrayList" ∧ Fld Z h o0 "java/util/AbstractList" "modCount" "I" (.int (0 : Int32)) ∧ Fld Z h o0 "java/util/ArrayList" "elementData" "[Ljava/lang/Object;" .null)) none h2 _ := ⟨rfl, N2, K2, G3, F2, G4⟩
  refine own_retV X2 hx hlk hP hrt (hb hby own_dabl_9) (by decide) (by decide) ?_
  rw [e2]; exact hfin
theorem own_dal_0 : decode jdk_38_method_2_code 0 = .ok (.aload_n 0, 1) := by decide +kernel
theorem own_dal_1 : decode jdk_38_method_2_code 1 = .ok (.invokespecial 1, 3) := by decide +kernel
theorem own_dal_4 : decode jdk_38_method_2_code 4 = .ok (.aload_n 0, 1) := by decide +kernel
theorem own_dal_5 : decode jdk_38_method_2_code 5 = .ok (.getstatic 39, 3) := by decide +kernel
theorem own_dal_8 : decode jdk_38_method_2_code 8 = .ok (.putfield 9, 3) := by decide +kernel
theorem own_dal_11 : decode jdk_38_method_2_code 11 = .ok (.return_, 1) := by decide +kernel
theorem own_efal (m : MethodId) (o0 : Addr) : entryFrame m #[(.ref o0)] 1 = mkF m 0 #[.val (.ref o0)] [] := by first | (simp [entryFrame, mkF, argsToLocals, Value.category]; done) | rfl
theorem own_pn_java_util_ArrayList : plainName "java/util/ArrayList" = true := by first | (simp [plainName, overriddenIn]; done) | decide +kernel
set_option maxRecDepth 65536 in
set_option maxHeartbeats 40000000 in
theorem own_mal (l : Launch) (Z : State) (a0 : Array Value) (hw : ∀ d ∈ tables_1, d.before a0 Z = true) (ws : List Jvm.Cond) (o0 : Addr) (s_ArrayList_DEFAULTCAPACITY_EMPTY_ELEMENTDATA : Addr) (h0 : Heap) (n0 : Nat) (Z0 : n0 ≤ h0.size) (E_o0 : Exa Z h0 o0 "java/util/ArrayList") (F_o0_modCount : Fld Z h0 o0 "java/util/AbstractList" "modCount" "I" (.int (0 : Int32))) (F_o0_elementData : Fld Z h0 o0 "java/util/ArrayList" "elementData" "[Ljava/lang/Object;" .null) (S_ArrayList_DEFAULTCAPACITY_EMPTY_ELEMENTDATA : Sta Z h0 "java/util/ArrayList" "DEFAULTCAPACITY_EMPTY_ELEMENTDATA" "[Ljava/lang/Object;" (.ref s_ArrayList_DEFAULTCAPACITY_EMPTY_ELEMENTDATA)) (low_o0 : n0 ≤ o0) :
    own_Met l Z (⟨"java/util/ArrayList", "<init>", "()V"⟩ : MethodName) jdk_38_method_2_code 1 none ws ({ frames := 3, cells := 0, slots := 0, locals := 36 } : Room) #[(.ref o0)] h0 (fun (v : Option Value) (h : Heap) (L : List Loc) => v = none ∧ Fr n0 L ∧ Keep h0 h [o0] ∧ Exa Z h o0 "java/util/ArrayList") := by
  refine own_enter (plainFor_of_name own_pn_java_util_ArrayList) ?_
  intro p e s m below meth c s₁ P hx hby hml hrt hlk hown hnm hZ X0 e0 hP
  have N0 := Fr.nil n0
  have K0 := Keep.refl h0 [o0]
  have hml' : c.maxLocals = 1 := hml
  refine own_cast (own_efal m o0) ?_
  show own_End p e below P (s₁.setTop (mkF m 0 #[.val (.ref o0)] []))
  refine own_st (fun _ => XS.aloadN X0.here hx rfl (hb hby own_dal_0) rfl rfl) ?_
  show own_End p e below P (s₁.setTop (mkF m 1 #[.val (.ref o0)] [(.ref o0)]))
  refine own_callI X0 hx hZ (y := (⟨"java/util/AbstractList", "<init>", "()V"⟩ : MethodName)) rfl hown (hw _ (List.mem_of_getElem? (i := 68) rfl)) (hw _ (List.mem_of_getElem? (i := 69) rfl)) (hw _ (List.mem_of_getElem? (i := 72) rfl)) (hw _ (List.mem_of_getElem? (i := 73) rfl)) (by decide) (own_mabl l Z a0 hw [] o0  h0 n0 (Nat.le_trans Z0 K0.1) E_o0 F_o0_modCount F_o0_elementData low_o0) 0 (by decide) (by decide) e0 (by decide) (by decide) (g := (mkF m 1 #[.val (.ref o0)] [(.ref o0)])) rfl (by rw [hml']; rfl) (a := o0) (argsL := []) (rest := []) rfl (lenOf own_pd_V_167 rfl) rfl (by show 2 * 0 + _ ≤ _; exact Nat.le_of_eq rfl) (hb hby own_dal_1) (fun r1 T1 L1 X1 hQ1 => ?_)
  obtain ⟨rfl, Nq1, Kq1, f0_1, f1_1, f2_1⟩ := hQ1
  have N1 := Fr.app N0 Nq1
  have K1 := Keep.trans K0 Kq1 (allS (Or.inl (List.mem_of_getElem? (i := 0) rfl)) all0)
  show own_End p e below P (T1.setTop (mkF m 4 #[.val (.ref o0)] []))
  refine own_st (fun _ => XS.aloadN X1.here hx rfl (hb hby own_dal_4) rfl rfl) ?_
  show own_End p e below P (T1.setTop (mkF m 5 #[.val (.ref o0)] [(.ref o0)]))
  have G2 := (own_StaKeep S_ArrayList_DEFAULTCAPACITY_EMPTY_ELEMENTDATA Kq1 (allS (own_nst E_o0) all0))
  obtain ⟨T3, X3, e3, st3⟩ := getS2 X1 hx hZ hown (host := "") (Or.inl (hw _ (List.mem_of_getElem? (i := 83) rfl))) Via.refl rfl G2 (g := (mkF m 5 #[.val (.ref o0)] [(.ref o0)])) rfl (hb hby own_dal_5)
  refine own_st (fun _ => st3 _) ?_
  show own_End p e below P (T3.setTop (mkF m 8 #[.val (.ref o0)] [(.ref s_ArrayList_DEFAULTCAPACITY_EMPTY_ELEMENTDATA), (.ref o0)]))
  obtain ⟨T4, h4, X4, e4, W4, st4⟩ := putF X3 hx hZ hown (host := "") (Or.inl (hw _ (List.mem_of_getElem? (i := 84) rfl))) Via.refl e3 f2_1 f0_1 (Or.inl (hw _ (List.mem_of_getElem? (i := 85) rfl))) (hw _ (List.mem_of_getElem? (i := 63) rfl)) (ty := (.array (.object "java/lang/Object"))) (by decide) rfl rfl (g := (mkF m 8 #[.val (.ref o0)] [(.ref s_ArrayList_DEFAULTCAPACITY_EMPTY_ELEMENTDATA), (.ref o0)])) rfl rfl (hb hby own_dal_8)
  have N4 := Fr.snoc X4 N1 low_o0
  have K4 := Keep.wr K1 W4 (Or.inl (List.mem_of_getElem? (i := 0) rfl))
  have F4 := f2_1.same W4
  refine own_st (fun _ => st4 _) ?_
  show own_End p e below P (T4.setTop (mkF m 11 #[.val (.ref o0)] []))
  have G5 := (f0_1.wr W4)
  have hfin : ((fun (v : Option Value) (h : Heap) (L : List Loc) => v = none ∧ Fr n0 L ∧ Keep h0 h [o0] ∧ Exa Z h o0 "java/util/ArrayList")) none h4 _ := ⟨rfl, N4, K4, G5⟩
  refine own_retV X4 hx hlk hP hrt (hb hby own_dal_11) (by decide) (by decide) ?_
  rw [e4]; exact hfin
theorem own_dihmi_0 : decode jdk_2581_method_6_code 0 = .ok (.aload_n 0, 1) := by decide +kernel
theorem own_dihmi_1 : decode jdk_2581_method_6_code 1 = .ok (.iconst 2, 1) := by decide +kernel
theorem own_dihmi_2 : decode jdk_2581_method_6_code 2 = .ok (.iload_n 1, 1) := by decide +kernel
theorem own_dihmi_3 : decode jdk_2581_method_6_code 3 = .ok (.imul, 1) := by decide +kernel
theorem own_dihmi_4 : decode jdk_2581_method_6_code 4 = .ok (.anewarray 49, 3) := by decide +kernel
theorem own_dihmi_7 : decode jdk_2581_method_6_code 7 = .ok (.putfield 51, 3) := by decide +kernel
theorem own_dihmi_10 : decode jdk_2581_method_6_code 10 = .ok (.return_, 1) := by decide +kernel
theorem own_efihmi (m : MethodId) (o0 : Addr) : entryFrame m #[(.ref o0), (.int (32 : Int32))] 2 = mkF m 0 #[.val (.ref o0), .val (.int (32 : Int32))] [] := by first | (simp [entryFrame, mkF, argsToLocals, Value.category]; done) | rfl
theorem own_pn_java_util_IdentityHashMap : plainName "java/util/IdentityHashMap" = true := by first | (simp [plainName, overriddenIn]; done) | decide +kernel
set_option maxRecDepth 65536 in
set_option maxHeartbeats 40000000 in
theorem own_mihmi (l : Launch) (Z : State) (a0 : Array Value) (hw : ∀ d ∈ tables_1, d.before a0 Z = true) (ws : List Jvm.Cond) (o0 : Addr)  (h0 : Heap) (n0 : Nat) (Z0 : n0 ≤ h0.size) (E_o0 : Exa Z h0 o0 "java/util/IdentityHashMap") (F_o0_table : Fld Z h0 o0 "java/util/IdentityHashMap" "table" "[Ljava/lang/Object;" .null) (low_o0 : n0 ≤ o0) :
    own_Met l Z (⟨"java/util/IdentityHashMap", "init", "(I)V"⟩ : MethodName) jdk_2581_method_6_code 2 none ws ({ frames := 0, cells := 1, slots := 64, locals := 0 } : Room) #[(.ref o0), (.int (32 : Int32))] h0 (fun (v : Option Value) (h : Heap) (L : List Loc) => ∃ (b1 : Addr), v = none ∧ Fr n0 L ∧ Keep h0 h [o0] ∧ h0.size ≤ b1 ∧ n0 ≤ b1 ∧ Exa Z h o0 "java/util/IdentityHashMap" ∧ Exa Z h b1 "[Ljava/lang/Object;") := by
  refine own_enter (plainFor_of_name own_pn_java_util_IdentityHashMap) ?_
  intro p e s m below meth c s₁ P hx hby hml hrt hlk hown hnm hZ X0 e0 hP
  have N0 := Fr.nil n0
  have K0 := Keep.refl h0 [o0]
  have hml' : c.maxLocals = 2 := hml
  refine own_cast (own_efihmi m o0) ?_
  show own_End p e below P (s₁.setTop (mkF m 0 #[.val (.ref o0), .val (.int (32 : Int32))] []))
  refine own_st (fun _ => XS.aloadN X0.here hx rfl (hb hby own_dihmi_0) rfl rfl) ?_
  show own_End p e below P (s₁.setTop (mkF m 1 #[.val (.ref o0), .val (.int (32 : Int32))] [(.ref o0)]))
  refine own_st (fun _ => XS.iconst X0.here hx rfl (hb hby own_dihmi_1)) ?_
  show own_End p e below P (s₁.setTop (mkF m 2 #[.val (.ref o0), .val (.int (32 : Int32))] [(.int (2 : Int32)), (.ref o0)]))
  refine own_st (fun _ => XS.iloadN X0.here hx rfl (hb hby own_dihmi_2) rfl) ?_
  show own_End p e below P (s₁.setTop (mkF m 3 #[.val (.ref o0), .val (.int (32 : Int32))] [(.int (32 : Int32)), (.int (2 : Int32)), (.ref o0)]))
  refine own_st (fun _ => XS.imul X0.here hx rfl (hb hby own_dihmi_3) rfl) ?_
  show own_End p e below P (s₁.setTop (mkF m 4 #[.val (.ref o0), .val (.int (32 : Int32))] [(.int (64 : Int32)), (.ref o0)]))
  obtain ⟨T1, h1, k1, X1, e1, E1, A1, Ex1, O1, st1⟩ := newRE X0 hx hZ hown (hw _ (List.mem_of_getElem? (i := 134) rfl)) (hw _ (List.mem_of_getElem? (i := 135) rfl)) e0 (g := (mkF m 4 #[.val (.ref o0), .val (.int (32 : Int32))] [(.int (64 : Int32)), (.ref o0)])) rfl (hb hby own_dihmi_4) rfl (by decide) (cap := 64) (by decide) (by decide) (by decide) (by decide) (ad := "[Ljava/lang/Object;") (by decide)
  obtain ⟨b1, g1⟩ : ∃ z, z = h0.size := ⟨_, rfl⟩
  rw [← g1] at A1 Ex1 st1
  have ne2 : o0 ≠ b1 := Nat.ne_of_lt (Nat.lt_of_lt_of_le E_o0.lt (Nat.le_of_eq g1.symm))
  have low_b1 : n0 ≤ b1 := Nat.le_trans (Nat.le_trans Z0 K0.1) (Nat.le_of_eq g1.symm)
  have sz_b1 : h0.size ≤ b1 := Nat.le_trans K0.1 (Nat.le_of_eq g1.symm)
  have K1 := Keep.ext K0 E1
  refine own_st (fun _ => st1 _) ?_
  show own_End p e below P (T1.setTop (mkF m 7 #[.val (.ref o0), .val (.int (32 : Int32))] [(.ref b1), (.ref o0)]))
  have G3 := (F_o0_table.ext E1)
  have G4 := (E_o0.ext E1)
  obtain ⟨T5, h5, X5, e5, W5, st5⟩ := putF X1 hx hZ hown (host := "") (Or.inl (hw _ (List.mem_of_getElem? (i := 136) rfl))) Via.refl e1 G3 G4 (Or.inl (hw _ (List.mem_of_getElem? (i := 137) rfl))) (hw _ (List.mem_of_getElem? (i := 122) rfl)) (ty := (.array (.object "java/lang/Object"))) (by decide) rfl rfl (g := (mkF m 7 #[.val (.ref o0), .val (.int (32 : Int32))] [(.ref b1), (.ref o0)])) rfl rfl (hb hby own_dihmi_7)
  have N5 := Fr.snoc X5 N0 low_o0
  have K5 := Keep.wr K1 W5 (Or.inl (List.mem_of_getElem? (i := 0) rfl))
  have F5 := G3.same W5
  refine own_st (fun _ => st5 _) ?_
  show own_End p e below P (T5.setTop (mkF m 10 #[.val (.ref o0), .val (.int (32 : Int32))] []))
  have G6 := (G4.wr W5)
  have G7 := (Ex1.wr W5)
  have hfin : ((fun (v : Option Value) (h : Heap) (L : List Loc) => ∃ (b1 : Addr), v = none ∧ Fr n0 L ∧ Keep h0 h [o0] ∧ h0.size ≤ b1 ∧ n0 ≤ b1 ∧ Exa Z h o0 "java/util/IdentityHashMap" ∧ Exa Z h b1 "[Ljava/lang/Object;")) none h5 _ := ⟨b1, rfl, N5, K5, sz_b1, low_b1, G6, G7⟩
  refine own_retV X5 hx hlk hP hrt (hb hby own_dihmi_10) (by decide) (by decide) ?_
  rw [e5]; exact hfin
theorem own_dihm_0 : decode jdk_2581_method_3_code 0 = .ok (.aload_n 0, 1) := by decide +kernel
theorem own_dihm_1 : decode jdk_2581_method_3_code 1 = .ok (.invokespecial 7, 3) := by decide +kernel
theorem own_dihm_4 : decode jdk_2581_method_3_code 4 = .ok (.aload_n 0, 1) := by decide +kernel
theorem own_dihm_5 : decode jdk_2581_method_3_code 5 = .ok (.bipush 32, 2) := by decide +kernel
theorem own_dihm_7 : decode jdk_2581_method_3_code 7 = .ok (.invokevirtual 13, 3) := by decide +kernel
theorem own_pd_I_V_240 : parseMethodDescriptor "(I)V" = some ⟨[.int], none⟩ := by decide +kernel
theorem own_dihm_10 : decode jdk_2581_method_3_code 10 = .ok (.return_, 1) := by decide +kernel
theorem own_efihm (m : MethodId) (o0 : Addr) : entryFrame m #[(.ref o0)] 1 = mkF m 0 #[.val (.ref o0)] [] := by first | (simp [entryFrame, mkF, argsToLocals, Value.category]; done) | rfl
set_option maxRecDepth 65536 in
set_option maxHeartbeats 40000000 in
theorem own_mihm (l : Launch) (Z : State) (a0 : Array Value) (hw : ∀ d ∈ tables_1, d.before a0 Z = true) (ws : List Jvm.Cond) (o0 : Addr)  (h0 : Heap) (n0 : Nat) (Z0 : n0 ≤ h0.size) (E_o0 : Exa Z h0 o0 "java/util/IdentityHashMap") (F_o0_table : Fld Z h0 o0 "java/util/IdentityHashMap" "table" "[Ljava/lang/Object;" .null) (low_o0 : n0 ≤ o0) :
    own_Met l Z (⟨"java/util/IdentityHashMap", "<init>", "()V"⟩ : MethodName) jdk_2581_method_3_code 1 none ws ({ frames := 2, cells := 1, slots := 64, locals := 24 } : Room) #[(.ref o0)] h0 (fun (v : Option Value) (h : Heap) (L : List Loc) => ∃ (b1_2 : Addr), v = none ∧ Fr n0 L ∧ Keep h0 h [o0] ∧ h0.size ≤ b1_2 ∧ n0 ≤ b1_2 ∧ Exa Z h o0 "java/util/IdentityHashMap" ∧ Exa Z h b1_2 "[Ljava/lang/Object;") := by
  refine own_enter (plainFor_of_name own_pn_java_util_IdentityHashMap) ?_
  intro p e s m below meth c s₁ P hx hby hml hrt hlk hown hnm hZ X0 e0 hP
  have N0 := Fr.nil n0
  have K0 := Keep.refl h0 [o0]
  have hml' : c.maxLocals = 1 := hml
  refine own_cast (own_efihm m o0) ?_
  show own_End p e below P (s₁.setTop (mkF m 0 #[.val (.ref o0)] []))
  refine own_st (fun _ => XS.aloadN X0.here hx rfl (hb hby own_dihm_0) rfl rfl) ?_
  show own_End p e below P (s₁.setTop (mkF m 1 #[.val (.ref o0)] [(.ref o0)]))
  refine own_callI X0 hx hZ (y := (⟨"java/util/AbstractMap", "<init>", "()V"⟩ : MethodName)) rfl hown (hw _ (List.mem_of_getElem? (i := 127) rfl)) (hw _ (List.mem_of_getElem? (i := 47) rfl)) (hw _ (List.mem_of_getElem? (i := 50) rfl)) (hw _ (List.mem_of_getElem? (i := 51) rfl)) (by decide) (own_m1 l Z a0 hw [] o0  h0 n0 (Nat.le_trans Z0 K0.1) ) 0 (by decide) (by decide) e0 (by decide) (by decide) (g := (mkF m 1 #[.val (.ref o0)] [(.ref o0)])) rfl (by rw [hml']; rfl) (a := o0) (argsL := []) (rest := []) rfl (lenOf own_pd_V_167 rfl) rfl (by show 2 * 0 + _ ≤ _; exact Nat.le_of_eq rfl) (hb hby own_dihm_1) (fun r1 T1 L1 X1 hQ1 => ?_)
  obtain ⟨rfl, Nq1, eq1⟩ := hQ1
  have N1 := Fr.app N0 Nq1
  show own_End p e below P (T1.setTop (mkF m 4 #[.val (.ref o0)] []))
  refine own_st (fun _ => XS.aloadN X1.here hx rfl (hb hby own_dihm_4) rfl rfl) ?_
  show own_End p e below P (T1.setTop (mkF m 5 #[.val (.ref o0)] [(.ref o0)]))
  refine own_st (fun _ => XS.bipush X1.here hx rfl (hb hby own_dihm_5)) ?_
  show own_End p e below P (T1.setTop (mkF m 7 #[.val (.ref o0)] [(.int (32 : Int32)), (.ref o0)]))
  refine own_callP X1 hx hZ (y := (⟨"java/util/IdentityHashMap", "init", "(I)V"⟩ : MethodName)) (z := (⟨"java/util/IdentityHashMap", "init", "(I)V"⟩ : MethodName)) hown (hw _ (List.mem_of_getElem? (i := 129) rfl)) (hw _ (List.mem_of_getElem? (i := 130) rfl)) rfl (hw _ (List.mem_of_getElem? (i := 132) rfl)) (hw _ (List.mem_of_getElem? (i := 131) rfl)) (hw _ (List.mem_of_getElem? (i := 123) rfl)) (hw _ (List.mem_of_getElem? (i := 133) rfl)) (by decide) E_o0 (own_mihmi l Z a0 hw [] o0  h0 n0 (Nat.le_trans Z0 K0.1) E_o0 F_o0_table low_o0) 0 (by decide) (by decide) eq1 (by decide) (by decide) (g := (mkF m 7 #[.val (.ref o0)] [(.int (32 : Int32)), (.ref o0)])) rfl (by rw [hml']; rfl) (argsL := [(.int (32 : Int32))]) (rest := []) rfl (lenOf own_pd_I_V_240 rfl) rfl (by show 2 * 0 + _ ≤ _; exact Nat.le_of_eq rfl) (hb hby own_dihm_7) (fun r2 T2 L2 X2 hQ2 => ?_)
  obtain ⟨b1_2, rfl, Nq2, Kq2, szq_b1_2, low_b1_2, f0_2, f1_2⟩ := hQ2
  have N2 := Fr.app N1 Nq2
  have ne3 : o0 ≠ b1_2 := Nat.ne_of_lt (Nat.lt_of_lt_of_le E_o0.lt szq_b1_2)
  have sz_b1_2 := Nat.le_trans K0.1 szq_b1_2
  have K2 := Keep.trans K0 Kq2 (allS (Or.inl (List.mem_of_getElem? (i := 0) rfl)) all0)
  show own_End p e below P (T2.setTop (mkF m 10 #[.val (.ref o0)] []))
  have hfin : ((fun (v : Option Value) (h : Heap) (L : List Loc) => ∃ (b1_2 : Addr), v = none ∧ Fr n0 L ∧ Keep h0 h [o0] ∧ h0.size ≤ b1_2 ∧ n0 ≤ b1_2 ∧ Exa Z h o0 "java/util/IdentityHashMap" ∧ Exa Z h b1_2 "[Ljava/lang/Object;")) none T2.heap _ := ⟨b1_2, rfl, N2, K2, sz_b1_2, low_b1_2, f0_2, f1_2⟩
  refine own_retV X2 hx hlk hP hrt (hb hby own_dihm_10) (by decide) (by decide) ?_
  exact hfin
theorem own_dpn_0 : decode prog_149_method_1_code 0 = .ok (.aload_n 0, 1) := by decide +kernel
theorem own_dpn_1 : decode prog_149_method_1_code 1 = .ok (.invokespecial 1, 3) := by decide +kernel
theorem own_dpn_4 : decode prog_149_method_1_code 4 = .ok (.aload_n 0, 1) := by decide +kernel
theorem own_dpn_5 : decode prog_149_method_1_code 5 = .ok (.new 7, 3) := by decide +kernel
theorem own_dpn_8 : decode prog_149_method_1_code 8 = .ok (.dup, 1) := by decide +kernel
theorem own_dpn_9 : decode prog_149_method_1_code 9 = .ok (.invokespecial 9, 3) := by decide +kernel
theorem own_dpn_12 : decode prog_149_method_1_code 12 = .ok (.putfield 10, 3) := by decide +kernel
theorem own_dpn_15 : decode prog_149_method_1_code 15 = .ok (.aload_n 0, 1) := by decide +kernel
theorem own_dpn_16 : decode prog_149_method_1_code 16 = .ok (.new 16, 3) := by decide +kernel
theorem own_dpn_19 : decode prog_149_method_1_code 19 = .ok (.dup, 1) := by decide +kernel
theorem own_dpn_20 : decode prog_149_method_1_code 20 = .ok (.invokespecial 18, 3) := by decide +kernel
theorem own_dpn_23 : decode prog_149_method_1_code 23 = .ok (.putfield 19, 3) := by decide +kernel
theorem own_dpn_26 : decode prog_149_method_1_code 26 = .ok (.aload_n 0, 1) := by decide +kernel
theorem own_dpn_27 : decode prog_149_method_1_code 27 = .ok (.new 7, 3) := by decide +kernel
theorem own_dpn_30 : decode prog_149_method_1_code 30 = .ok (.dup, 1) := by decide +kernel
theorem own_dpn_31 : decode prog_149_method_1_code 31 = .ok (.invokespecial 9, 3) := by decide +kernel
theorem own_dpn_34 : decode prog_149_method_1_code 34 = .ok (.putfield 23, 3) := by decide +kernel
theorem own_dpn_37 : decode prog_149_method_1_code 37 = .ok (.aload_n 0, 1) := by decide +kernel
theorem own_dpn_38 : decode prog_149_method_1_code 38 = .ok (.new 16, 3) := by decide +kernel
theorem own_dpn_41 : decode prog_149_method_1_code 41 = .ok (.dup, 1) := by decide +kernel
theorem own_dpn_42 : decode prog_149_method_1_code 42 = .ok (.invokespecial 18, 3) := by decide +kernel
theorem own_dpn_45 : decode prog_149_method_1_code 45 = .ok (.putfield 26, 3) := by decide +kernel
theorem own_dpn_48 : decode prog_149_method_1_code 48 = .ok (.aload_n 0, 1) := by decide +kernel
theorem own_dpn_49 : decode prog_149_method_1_code 49 = .ok (.new 16, 3) := by decide +kernel
theorem own_dpn_52 : decode prog_149_method_1_code 52 = .ok (.dup, 1) := by decide +kernel
theorem own_dpn_53 : decode prog_149_method_1_code 53 = .ok (.invokespecial 18, 3) := by decide +kernel
theorem own_dpn_56 : decode prog_149_method_1_code 56 = .ok (.putfield 29, 3) := by decide +kernel
theorem own_dpn_59 : decode prog_149_method_1_code 59 = .ok (.aload_n 0, 1) := by decide +kernel
theorem own_dpn_60 : decode prog_149_method_1_code 60 = .ok (.new 16, 3) := by decide +kernel
theorem own_dpn_63 : decode prog_149_method_1_code 63 = .ok (.dup, 1) := by decide +kernel
theorem own_dpn_64 : decode prog_149_method_1_code 64 = .ok (.invokespecial 18, 3) := by decide +kernel
theorem own_dpn_67 : decode prog_149_method_1_code 67 = .ok (.putfield 32, 3) := by decide +kernel
theorem own_dpn_70 : decode prog_149_method_1_code 70 = .ok (.aload_n 0, 1) := by decide +kernel
theorem own_dpn_71 : decode prog_149_method_1_code 71 = .ok (.new 16, 3) := by decide +kernel
theorem own_dpn_74 : decode prog_149_method_1_code 74 = .ok (.dup, 1) := by decide +kernel
theorem own_dpn_75 : decode prog_149_method_1_code 75 = .ok (.invokespecial 18, 3) := by decide +kernel
theorem own_dpn_78 : decode prog_149_method_1_code 78 = .ok (.putfield 35, 3) := by decide +kernel
theorem own_dpn_81 : decode prog_149_method_1_code 81 = .ok (.aload_n 0, 1) := by decide +kernel
theorem own_dpn_82 : decode prog_149_method_1_code 82 = .ok (.new 16, 3) := by decide +kernel
theorem own_dpn_85 : decode prog_149_method_1_code 85 = .ok (.dup, 1) := by decide +kernel
theorem own_dpn_86 : decode prog_149_method_1_code 86 = .ok (.invokespecial 18, 3) := by decide +kernel
theorem own_dpn_89 : decode prog_149_method_1_code 89 = .ok (.putfield 38, 3) := by decide +kernel
theorem own_dpn_92 : decode prog_149_method_1_code 92 = .ok (.aload_n 0, 1) := by decide +kernel
theorem own_dpn_93 : decode prog_149_method_1_code 93 = .ok (.new 16, 3) := by decide +kernel
theorem own_dpn_96 : decode prog_149_method_1_code 96 = .ok (.dup, 1) := by decide +kernel
theorem own_dpn_97 : decode prog_149_method_1_code 97 = .ok (.invokespecial 18, 3) := by decide +kernel
theorem own_dpn_100 : decode prog_149_method_1_code 100 = .ok (.putfield 41, 3) := by decide +kernel
theorem own_dpn_103 : decode prog_149_method_1_code 103 = .ok (.aload_n 0, 1) := by decide +kernel
theorem own_dpn_104 : decode prog_149_method_1_code 104 = .ok (.new 16, 3) := by decide +kernel
theorem own_dpn_107 : decode prog_149_method_1_code 107 = .ok (.dup, 1) := by decide +kernel
theorem own_dpn_108 : decode prog_149_method_1_code 108 = .ok (.invokespecial 18, 3) := by decide +kernel
theorem own_dpn_111 : decode prog_149_method_1_code 111 = .ok (.putfield 44, 3) := by decide +kernel
theorem own_dpn_114 : decode prog_149_method_1_code 114 = .ok (.aload_n 0, 1) := by decide +kernel
theorem own_dpn_115 : decode prog_149_method_1_code 115 = .ok (.new 16, 3) := by decide +kernel
theorem own_dpn_118 : decode prog_149_method_1_code 118 = .ok (.dup, 1) := by decide +kernel
theorem own_dpn_119 : decode prog_149_method_1_code 119 = .ok (.invokespecial 18, 3) := by decide +kernel
theorem own_dpn_122 : decode prog_149_method_1_code 122 = .ok (.putfield 47, 3) := by decide +kernel
theorem own_dpn_125 : decode prog_149_method_1_code 125 = .ok (.aload_n 0, 1) := by decide +kernel
theorem own_dpn_126 : decode prog_149_method_1_code 126 = .ok (.new 16, 3) := by decide +kernel
theorem own_dpn_129 : decode prog_149_method_1_code 129 = .ok (.dup, 1) := by decide +kernel
theorem own_dpn_130 : decode prog_149_method_1_code 130 = .ok (.invokespecial 18, 3) := by decide +kernel
theorem own_dpn_133 : decode prog_149_method_1_code 133 = .ok (.putfield 50, 3) := by decide +kernel
theorem own_dpn_136 : decode prog_149_method_1_code 136 = .ok (.aload_n 0, 1) := by decide +kernel
theorem own_dpn_137 : decode prog_149_method_1_code 137 = .ok (.iconst (-1), 1) := by decide +kernel
theorem own_dpn_138 : decode prog_149_method_1_code 138 = .ok (.putfield 53, 3) := by decide +kernel
theorem own_dpn_141 : decode prog_149_method_1_code 141 = .ok (.aload_n 0, 1) := by decide +kernel
theorem own_dpn_142 : decode prog_149_method_1_code 142 = .ok (.aload_n 1, 1) := by decide +kernel
theorem own_dpn_143 : decode prog_149_method_1_code 143 = .ok (.putfield 57, 3) := by decide +kernel
theorem own_dpn_146 : decode prog_149_method_1_code 146 = .ok (.return_, 1) := by decide +kernel
theorem own_efpn (m : MethodId) (o0 : Addr) (o1 : Addr) : entryFrame m #[(.ref o0), (.ref o1)] 2 = mkF m 0 #[.val (.ref o0), .val (.ref o1)] [] := by first | (simp [entryFrame, mkF, argsToLocals, Value.category]; done) | rfl
theorem own_pn_com_example_tallywire_tallywire_rules_PathNode : plainName "com/example/tallywire/tallywire/rules/PathNode" = true := by first | (simp [plainName, overriddenIn]; done) | decide +kernel
set_option maxRecDepth 65536 in
set_option maxHeartbeats 40000000 in
theorem own_mpn (l : Launch) (Z : State) (a0 : Array Value) (hw : ∀ d ∈ tables_1, d.before a0 Z = true) (ws : List Jvm.Cond) (o0 : Addr) (o1 : Addr) (s_ArrayList_DEFAULTCAPACITY_EMPTY_ELEMENTDATA : Addr) (h0 : Heap) (n0 : Nat) (Z0 : n0 ≤ h0.size) (E_o0 : Exa Z h0 o0 "com/example/tallywire/tallywire/rules/PathNode") (F_o0_children : Fld Z h0 o0 "com/example/tallywire/tallywire/rules/PathNode" "children" "Ljava/util/Map;" .null) (F_o0_values : Fld Z h0 o0 "com/example/tallywire/tallywire/rules/PathNode" "values" "Ljava/util/List;" .null) (F_o0_attributes : Fld Z h0 o0 "com/example/tallywire/tallywire/rules/PathNode" "attributes" "Ljava/util/Map;" .null) (F_o0_requiredChildren : Fld Z h0 o0 "com/example/tallywire/tallywire/rules/PathNode" "requiredChildren" "Ljava/util/List;" .null) (F_o0_rules : Fld Z h0 o0 "com/example/tallywire/tallywire/rules/PathNode" "rules" "Ljava/util/List;" .null) (F_o0_facts : Fld Z h0 o0 "com/example/tallywire/tallywire/rules/PathNode" "facts" "Ljava/util/List;" .null) (F_o0_valueFacts : Fld Z h0 o0 "com/example/tallywire/tallywire/rules/PathNode" "valueFacts" "Ljava/util/List;" .null) (F_o0_textFacts : Fld Z h0 o0 "com/example/tallywire/tallywire/rules/PathNode" "textFacts" "Ljava/util/List;" .null) (F_o0_anchored : Fld Z h0 o0 "com/example/tallywire/tallywire/rules/PathNode" "anchored" "Ljava/util/List;" .null) (F_o0_lacks : Fld Z h0 o0 "com/example/tallywire/tallywire/rules/PathNode" "lacks" "Ljava/util/List;" .null) (F_o0_tallies : Fld Z h0 o0 "com/example/tallywire/tallywire/rules/PathNode" "tallies" "Ljava/util/List;" .null) (F_o0_tallyItems : Fld Z h0 o0 "com/example/tallywire/tallywire/rules/PathNode" "tallyItems" "Ljava/util/List;" .null) (F_o0_requiredIndex : Fld Z h0 o0 "com/example/tallywire/tallywire/rules/PathNode" "requiredIndex" "I" (.int (0 : Int32))) (F_o0_name : Fld Z h0 o0 "com/example/tallywire/tallywire/rules/PathNode" "name" "Ljava/lang/String;" .null) (S_ArrayList_DEFAULTCAPACITY_EMPTY_ELEMENTDATA : Sta Z h0 "java/util/ArrayList" "DEFAULTCAPACITY_EMPTY_ELEMENTDATA" "[Ljava/lang/Object;" (.ref s_ArrayList_DEFAULTCAPACITY_EMPTY_ELEMENTDATA)) (low_o0 : n0 ≤ o0) :
    own_Met l Z (⟨"com/example/tallywire/tallywire/rules/PathNode", "<init>", "(Ljava/lang/String;)V"⟩ : MethodName) prog_149_method_1_code 2 none ws ({ frames := 4, cells := 13, slots := 128, locals := 50 } : Room) #[(.ref o0), (.ref o1)] h0 (fun (v : Option Value) (h : Heap) (L : List Loc) => ∃ (b2 : Addr) (b8 : Addr) (b18 : Addr) (b29 : Addr) (b43 : Addr) (b59 : Addr) (b77 : Addr) (b97 : Addr) (b119 : Addr) (b143 : Addr) (b169 : Addr) (b197 : Addr), v = none ∧ Fr n0 L ∧ Keep h0 h [o0] ∧ h0.size ≤ b2 ∧ n0 ≤ b2 ∧ h0.size ≤ b8 ∧ n0 ≤ b8 ∧ h0.size ≤ b18 ∧ n0 ≤ b18 ∧ h0.size ≤ b29 ∧ n0 ≤ b29 ∧ h0.size ≤ b43 ∧ n0 ≤ b43 ∧ h0.size ≤ b59 ∧ n0 ≤ b59 ∧ h0.size ≤ b77 ∧ n0 ≤ b77 ∧ h0.size ≤ b97 ∧ n0 ≤ b97 ∧ h0.size ≤ b119 ∧ n0 ≤ b119 ∧ h0.size ≤ b143 ∧ n0 ≤ b143 ∧ h0.size ≤ b169 ∧ n0 ≤ b169 ∧ h0.size ≤ b197 ∧ n0 ≤ b197 ∧ b2 ≠ b8 ∧ b2 ≠ b18 ∧ b8 ≠ b18 ∧ b2 ≠ b29 ∧ b8 ≠ b29 ∧ b18 ≠ b29 ∧ b2 ≠ b43 ∧ b8 ≠ b43 ∧ b18 ≠ b43 ∧ b29 ≠ b43 ∧ b2 ≠ b59 ∧ b8 ≠ b59 ∧ b18 ≠ b59 ∧ b29 ≠ b59 ∧ b43 ≠ b59 ∧ b2 ≠ b77 ∧ b8 ≠ b77 ∧ b18 ≠ b77 ∧ b29 ≠ b77 ∧ b43 ≠ b77 ∧ b59 ≠ b77 ∧ b2 ≠ b97 ∧ b8 ≠ b97 ∧ b18 ≠ b97 ∧ b29 ≠ b97 ∧ b43 ≠ b97 ∧ b59 ≠ b97 ∧ b77 ≠ b97 ∧ b2 ≠ b119 ∧ b8 ≠ b119 ∧ b18 ≠ b119 ∧ b29 ≠ b119 ∧ b43 ≠ b119 ∧ b59 ≠ b119 ∧ b77 ≠ b119 ∧ b97 ≠ b119 ∧ b2 ≠ b143 ∧ b8 ≠ b143 ∧ b18 ≠ b143 ∧ b29 ≠ b143 ∧ b43 ≠ b143 ∧ b59 ≠ b143 ∧ b77 ≠ b143 ∧ b97 ≠ b143 ∧ b119 ≠ b143 ∧ b2 ≠ b169 ∧ b8 ≠ b169 ∧ b18 ≠ b169 ∧ b29 ≠ b169 ∧ b43 ≠ b169 ∧ b59 ≠ b169 ∧ b77 ≠ b169 ∧ b97 ≠ b169 ∧ b119 ≠ b169 ∧ b143 ≠ b169 ∧ b2 ≠ b197 ∧ b8 ≠ b197 ∧ b18 ≠ b197 ∧ b29 ≠ b197 ∧ b43 ≠ b197 ∧ b59 ≠ b197 ∧ b77 ≠ b197 ∧ b97 ≠ b197 ∧ b119 ≠ b197 ∧ b143 ≠ b197 ∧ b169 ≠ b197 ∧ Exa Z h o0 "com/example/tallywire/tallywire/rules/PathNode" ∧ Exa Z h b2 "java/util/LinkedHashMap" ∧ Exa Z h b8 "java/util/ArrayList" ∧ Exa Z h b18 "java/util/LinkedHashMap" ∧ Exa Z h b29 "java/util/ArrayList" ∧ Exa Z h b43 "java/util/ArrayList" ∧ Exa Z h b59 "java/util/ArrayList" ∧ Exa Z h b77 "java/util/ArrayList" ∧ Exa Z h b97 "java/util/ArrayList" ∧ Exa Z h b119 "java/util/ArrayList" ∧ Exa Z h b143 "java/util/ArrayList" ∧ Exa Z h b169 "java/util/ArrayList" ∧ Exa Z h b197 "java/util/ArrayList") := by
  refine own_enter (plainFor_of_name own_pn_com_example_tallywire_tallywire_rules_PathNode) ?_
  intro p e s m below meth c s₁ P hx hby hml hrt hlk hown hnm hZ X0 e0 hP
  have N0 := Fr.nil n0
  have K0 := Keep.refl h0 [o0]
  have hml' : c.maxLocals = 2 := hml
  refine own_cast (own_efpn m o0 o1) ?_
  show own_End p e below P (s₁.setTop (mkF m 0 #[.val (.ref o0), .val (.ref o1)] []))
  refine own_st (fun _ => XS.aloadN X0.here hx rfl (hb hby own_dpn_0) rfl rfl) ?_
  show own_End p e below P (s₁.setTop (mkF m 1 #[.val (.ref o0), .val (.ref o1)] [(.ref o0)]))
  obtain ⟨T1, X1, e1, st1⟩ := initO X0 hx hZ hown (hw _ (List.mem_of_getElem? (i := 33) rfl)) (hw _ (List.mem_of_getElem? (i := 18) rfl)) (hw _ (List.mem_of_getElem? (i := 19) rfl)) e0 (g := (mkF m 1 #[.val (.ref o0), .val (.ref o1)] [(.ref o0)])) rfl (by rw [hml']; rfl) rfl (hb hby own_dpn_1) (by decide) (W := 0) (by show 2 * 0 + _ ≤ _; exact Nat.le_of_eq rfl) (by decide)
  refine own_st (fun _ => st1 _) ?_
  show own_End p e below P (T1.setTop (mkF m 4 #[.val (.ref o0), .val (.ref o1)] []))
  refine own_st (fun _ => XS.aloadN X1.here hx rfl (hb hby own_dpn_4) rfl rfl) ?_
  show own_End p e below P (T1.setTop (mkF m 5 #[.val (.ref o0), .val (.ref o1)] [(.ref o0)]))
  obtain ⟨T2, h2, X2, e2, E2, A2, D2, -, st2⟩ := newO X1 hx hZ hown (hw _ (List.mem_of_getElem? (i := 34) rfl)) (hw _ (List.mem_of_getElem? (i := 35) rfl)) (hw _ (List.mem_of_getElem? (i := 36) rfl)) e1 (g := (mkF m 5 #[.val (.ref o0), .val (.ref o1)] [(.ref o0)])) rfl (hb hby own_dpn_5) (by decide) (by decide)
  obtain ⟨b2, g2⟩ : ∃ z, z = h0.size := ⟨_, rfl⟩
  rw [← g2] at A2 D2 st2
  have ne3 : o0 ≠ b2 := Nat.ne_of_lt (Nat.lt_of_lt_of_le E_o0.lt (Nat.le_of_eq g2.symm))
  have low_b2 : n0 ≤ b2 := Nat.le_trans (Nat.le_trans Z0 K0.1) (Nat.le_of_eq g2.symm)
  have sz_b2 : h0.size ≤ b2 := Nat.le_trans K0.1 (Nat.le_of_eq g2.symm)
  have K2 := Keep.ext K0 E2
  have F_b2_loadFactor : Fld Z h2 b2 "java/util/HashMap" "loadFactor" "F" (defaultValue .float) := D2 (Or.inr (hw _ (List.mem_of_getElem? (i := 55) rfl))) (ty := .float) (by decide)
  have F_b2_putMode : Fld Z h2 b2 "java/util/LinkedHashMap" "putMode" "I" (.int (0 : Int32)) := D2 (Or.inl (hw _ (List.mem_of_getElem? (i := 57) rfl))) (ty := .int) (by decide)
  have F_b2_accessOrder : Fld Z h2 b2 "java/util/LinkedHashMap" "accessOrder" "Z" (.int (0 : Int32)) := D2 (Or.inr (hw _ (List.mem_of_getElem? (i := 59) rfl))) (ty := .boolean) (by decide)
  refine own_st (fun _ => st2 _) ?_
  show own_End p e below P (T2.setTop (mkF m 8 #[.val (.ref o0), .val (.ref o1)] [(.ref b2), (.ref o0)]))
  refine own_st (fun _ => XS.dup X2.here hx rfl (hb hby own_dpn_8) rfl rfl) ?_
  show own_End p e below P (T2.setTop (mkF m 9 #[.val (.ref o0), .val (.ref o1)] [(.ref b2), (.ref b2), (.ref o0)]))
  refine own_callI X2 hx hZ (y := (⟨"java/util/LinkedHashMap", "<init>", "()V"⟩ : MethodName)) rfl hown (hw _ (List.mem_of_getElem? (i := 37) rfl)) (hw _ (List.mem_of_getElem? (i := 38) rfl)) (hw _ (List.mem_of_getElem? (i := 36) rfl)) (hw _ (List.mem_of_getElem? (i := 39) rfl)) (by decide) (own_mlhm l Z a0 hw [] b2  h2 n0 (Nat.le_trans Z0 K2.1) A2 F_b2_loadFactor F_b2_putMode F_b2_accessOrder low_b2) 2 (by decide) (by decide) e2 (by decide) (by decide) (g := (mkF m 9 #[.val (.ref o0), .val (.ref o1)] [(.ref b2), (.ref b2), (.ref o0)])) rfl (by rw [hml']; rfl) (a := b2) (argsL := []) (rest := [(.ref b2), (.ref o0)]) rfl (lenOf own_pd_V_167 rfl) rfl (by show 2 * 0 + _ ≤ _; exact Nat.le_of_eq rfl) (hb hby own_dpn_9) (fun r4 T4 L4 X4 hQ4 => ?_)
  obtain ⟨rfl, Nq4, Kq4, f0_4⟩ := hQ4
  have N4 := Fr.app N0 Nq4
  have K4 := Keep.trans K2 Kq4 (allS (Or.inr sz_b2) all0)
  show own_End p e below P (T4.setTop (mkF m 12 #[.val (.ref o0), .val (.ref o1)] [(.ref b2), (.ref o0)]))
  have G5 := ((F_o0_children.ext E2).keep Kq4 (ninS ne3 nin0))
  have G6 := ((E_o0.ext E2).keep Kq4)
  obtain ⟨T7, h7, X7, e7, W7, st7⟩ := putF X4 hx hZ hown (host := "") (Or.inl (hw _ (List.mem_of_getElem? (i := 60) rfl))) Via.refl rfl G5 G6 (Or.inr ⟨(hw _ (List.mem_of_getElem? (i := 61) rfl)), rfl, hnm⟩) (hw _ (List.mem_of_getElem? (i := 27) rfl)) (ty := (.object "java/util/Map")) (by decide) rfl rfl (g := (mkF m 12 #[.val (.ref o0), .val (.ref o1)] [(.ref b2), (.ref o0)])) rfl rfl (hb hby own_dpn_12)
  have N7 := Fr.snoc X7 N4 low_o0
  have K7 := Keep.wr K4 W7 (Or.inl (List.mem_of_getElem? (i := 0) rfl))
  have F7 := G5.same W7
  refine own_st (fun _ => st7 _) ?_
  show own_End p e below P (T7.setTop (mkF m 15 #[.val (.ref o0), .val (.ref o1)] []))
  refine own_st (fun _ => XS.aloadN X7.here hx rfl (hb hby own_dpn_15) rfl rfl) ?_
  show own_End p e below P (T7.setTop (mkF m 16 #[.val (.ref o0), .val (.ref o1)] [(.ref o0)]))
  obtain ⟨T8, h8, X8, e8, E8, A8, D8, -, st8⟩ := newO X7 hx hZ hown (hw _ (List.mem_of_getElem? (i := 62) rfl)) (hw _ (List.mem_of_getElem? (i := 63) rfl)) (hw _ (List.mem_of_getElem? (i := 64) rfl)) e7 (g := (mkF m 16 #[.val (.ref o0), .val (.ref o1)] [(.ref o0)])) rfl (hb hby own_dpn_16) (by decide) (by decide)
  obtain ⟨b8, g8⟩ : ∃ z, z = h7.size := ⟨_, rfl⟩
  rw [← g8] at A8 D8 st8
  have G10 := (f0_4.wr W7)
  have ne9 : b2 ≠ b8 := Nat.ne_of_lt (Nat.lt_of_lt_of_le G10.lt (Nat.le_of_eq g8.symm))
  have G12 := (G6.wr W7)
  have ne11 : o0 ≠ b8 := Nat.ne_of_lt (Nat.lt_of_lt_of_le G12.lt (Nat.le_of_eq g8.symm))
  have low_b8 : n0 ≤ b8 := Nat.le_trans (Nat.le_trans Z0 K7.1) (Nat.le_of_eq g8.symm)
  have sz_b8 : h0.size ≤ b8 := Nat.le_trans K7.1 (Nat.le_of_eq g8.symm)
  have K8 := Keep.ext K7 E8
  have F_b8_modCount : Fld Z h8 b8 "java/util/AbstractList" "modCount" "I" (.int (0 : Int32)) := D8 (Or.inl (hw _ (List.mem_of_getElem? (i := 82) rfl))) (ty := .int) (by decide)
  have F_b8_elementData : Fld Z h8 b8 "java/util/ArrayList" "elementData" "[Ljava/lang/Object;" .null := D8 (Or.inl (hw _ (List.mem_of_getElem? (i := 85) rfl))) (ty := (.array (.object "java/lang/Object"))) (by decide)
  refine own_st (fun _ => st8 _) ?_
  show own_End p e below P (T8.setTop (mkF m 19 #[.val (.ref o0), .val (.ref o1)] [(.ref b8), (.ref o0)]))
  refine own_st (fun _ => XS.dup X8.here hx rfl (hb hby own_dpn_19) rfl rfl) ?_
  show own_End p e below P (T8.setTop (mkF m 20 #[.val (.ref o0), .val (.ref o1)] [(.ref b8), (.ref b8), (.ref o0)]))
  have G14 := (((own_StaKeep (S_ArrayList_DEFAULTCAPACITY_EMPTY_ELEMENTDATA.ext E2) Kq4 (allS (own_nst A2) all0)).wr W7).ext E8)
  refine own_callI X8 hx hZ (y := (⟨"java/util/ArrayList", "<init>", "()V"⟩ : MethodName)) rfl hown (hw _ (List.mem_of_getElem? (i := 65) rfl)) (hw _ (List.mem_of_getElem? (i := 66) rfl)) (hw _ (List.mem_of_getElem? (i := 64) rfl)) (hw _ (List.mem_of_getElem? (i := 67) rfl)) (by decide) (own_mal l Z a0 hw [] b8 s_ArrayList_DEFAULTCAPACITY_EMPTY_ELEMENTDATA h8 n0 (Nat.le_trans Z0 K8.1) A8 F_b8_modCount F_b8_elementData G14 low_b8) 2 (by decide) (by decide) e8 (by decide) (by decide) (g := (mkF m 20 #[.val (.ref o0), .val (.ref o1)] [(.ref b8), (.ref b8), (.ref o0)])) rfl (by rw [hml']; rfl) (a := b8) (argsL := []) (rest := [(.ref b8), (.ref o0)]) rfl (lenOf own_pd_V_167 rfl) rfl (by show 2 * 0 + _ ≤ _; exact Nat.le_of_eq rfl) (hb hby own_dpn_20) (fun r13 T13 L13 X13 hQ13 => ?_)
  obtain ⟨rfl, Nq13, Kq13, f0_13⟩ := hQ13
  have N13 := Fr.app N7 Nq13
  have K13 := Keep.trans K8 Kq13 (allS (Or.inr sz_b8) all0)
  show own_End p e below P (T13.setTop (mkF m 23 #[.val (.ref o0), .val (.ref o1)] [(.ref b8), (.ref o0)]))
  have G15 := (((((F_o0_values.ext E2).keep Kq4 (ninS ne3 nin0)).other W7 (Or.inr (slot_ne (Or.inr (hw _ (List.mem_of_getElem? (i := 87) rfl))) (Or.inr (hw _ (List.mem_of_getElem? (i := 61) rfl))) (by decide) (t := (.object "java/util/List")) (t' := (.object "java/util/Map")) (by decide) (by decide)))).ext E8).keep Kq13 (ninS ne11 nin0))
  have G16 := ((G12.ext E8).keep Kq13)
  obtain ⟨T17, h17, X17, e17, W17, st17⟩ := putF X13 hx hZ hown (host := "") (Or.inl (hw _ (List.mem_of_getElem? (i := 86) rfl))) Via.refl rfl G15 G16 (Or.inr ⟨(hw _ (List.mem_of_getElem? (i := 87) rfl)), rfl, hnm⟩) (hw _ (List.mem_of_getElem? (i := 27) rfl)) (ty := (.object "java/util/List")) (by decide) rfl rfl (g := (mkF m 23 #[.val (.ref o0), .val (.ref o1)] [(.ref b8), (.ref o0)])) rfl rfl (hb hby own_dpn_23)
  have N17 := Fr.snoc X17 N13 low_o0
  have K17 := Keep.wr K13 W17 (Or.inl (List.mem_of_getElem? (i := 0) rfl))
  have F17 := G15.same W17
  refine own_st (fun _ => st17 _) ?_
  show own_End p e below P (T17.setTop (mkF m 26 #[.val (.ref o0), .val (.ref o1)] []))
  refine own_st (fun _ => XS.aloadN X17.here hx rfl (hb hby own_dpn_26) rfl rfl) ?_
  show own_End p e below P (T17.setTop (mkF m 27 #[.val (.ref o0), .val (.ref o1)] [(.ref o0)]))
  obtain ⟨T18, h18, X18, e18, E18, A18, D18, -, st18⟩ := newO X17 hx hZ hown (hw _ (List.mem_of_getElem? (i := 34) rfl)) (hw _ (List.mem_of_getElem? (i := 35) rfl)) (hw _ (List.mem_of_getElem? (i := 36) rfl)) e17 (g := (mkF m 27 #[.val (.ref o0), .val (.ref o1)] [(.ref o0)])) rfl (hb hby own_dpn_27) (by decide) (by decide)
  obtain ⟨b18, g18⟩ : ∃ z, z = h17.size := ⟨_, rfl⟩
  rw [← g18] at A18 D18 st18
  have G20 := (((G10.ext E8).keep Kq13).wr W17)
  have ne19 : b2 ≠ b18 := Nat.ne_of_lt (Nat.lt_of_lt_of_le G20.lt (Nat.le_of_eq g18.symm))
  have G22 := (f0_13.wr W17)
  have ne21 : b8 ≠ b18 := Nat.ne_of_lt (Nat.lt_of_lt_of_le G22.lt (Nat.le_of_eq g18.symm))
  have G24 := (G16.wr W17)
  have ne23 : o0 ≠ b18 := Nat.ne_of_lt (Nat.lt_of_lt_of_le G24.lt (Nat.le_of_eq g18.symm))
  have low_b18 : n0 ≤ b18 := Nat.le_trans (Nat.le_trans Z0 K17.1) (Nat.le_of_eq g18.symm)
  have sz_b18 : h0.size ≤ b18 := Nat.le_trans K17.1 (Nat.le_of_eq g18.symm)
  have K18 := Keep.ext K17 E18
  have F_b18_loadFactor : Fld Z h18 b18 "java/util/HashMap" "loadFactor" "F" (defaultValue .float) := D18 (Or.inr (hw _ (List.mem_of_getElem? (i := 55) rfl))) (ty := .float) (by decide)
  have F_b18_putMode : Fld Z h18 b18 "java/util/LinkedHashMap" "putMode" "I" (.int (0 : Int32)) := D18 (Or.inl (hw _ (List.mem_of_getElem? (i := 57) rfl))) (ty := .int) (by decide)
  have F_b18_accessOrder : Fld Z h18 b18 "java/util/LinkedHashMap" "accessOrder" "Z" (.int (0 : Int32)) := D18 (Or.inr (hw _ (List.mem_of_getElem? (i := 59) rfl))) (ty := .boolean) (by decide)
  refine own_st (fun _ => st18 _) ?_
  show own_End p e below P (T18.setTop (mkF m 30 #[.val (.ref o0), .val (.ref o1)] [(.ref b18), (.ref o0)]))
  refine own_st (fun _ => XS.dup X18.here hx rfl (hb hby own_dpn_30) rfl rfl) ?_
  show own_End p e below P (T18.setTop (mkF m 31 #[.val (.ref o0), .val (.ref o1)] [(.ref b18), (.ref b18), (.ref o0)]))
  refine own_callI X18 hx hZ (y := (⟨"java/util/LinkedHashMap", "<init>", "()V"⟩ : MethodName)) rfl hown (hw _ (List.mem_of_getElem? (i := 37) rfl)) (hw _ (List.mem_of_getElem? (i := 38) rfl)) (hw _ (List.mem_of_getElem? (i := 36) rfl)) (hw _ (List.mem_of_getElem? (i := 39) rfl)) (by decide) (own_mlhm l Z a0 hw [] b18  h18 n0 (Nat.le_trans Z0 K18.1) A18 F_b18_loadFactor F_b18_putMode F_b18_accessOrder low_b18) 2 (by decide) (by decide) e18 (by decide) (by decide) (g := (mkF m 31 #[.val (.ref o0), .val (.ref o1)] [(.ref b18), (.ref b18), (.ref o0)])) rfl (by rw [hml']; rfl) (a := b18) (argsL := []) (rest := [(.ref b18), (.ref o0)]) rfl (lenOf own_pd_V_167 rfl) rfl (by show 2 * 0 + _ ≤ _; exact Nat.le_of_eq rfl) (hb hby own_dpn_31) (fun r25 T25 L25 X25 hQ25 => ?_)
  obtain ⟨rfl, Nq25, Kq25, f0_25⟩ := hQ25
  have N25 := Fr.app N17 Nq25
  have K25 := Keep.trans K18 Kq25 (allS (Or.inr sz_b18) all0)
  show own_End p e below P (T25.setTop (mkF m 34 #[.val (.ref o0), .val (.ref o1)] [(.ref b18), (.ref o0)]))
  have G26 := ((((((((F_o0_attributes.ext E2).keep Kq4 (ninS ne3 nin0)).other W7 (Or.inr (slot_ne (Or.inr (hw _ (List.mem_of_getElem? (i := 89) rfl))) (Or.inr (hw _ (List.mem_of_getElem? (i := 61) rfl))) (by decide) (t := (.object "java/util/Map")) (t' := (.object "java/util/Map")) (by decide) (by decide)))).ext E8).keep Kq13 (ninS ne11 nin0)).other W17 (Or.inr (slot_ne (Or.inr (hw _ (List.mem_of_getElem? (i := 89) rfl))) (Or.inr (hw _ (List.mem_of_getElem? (i := 87) rfl))) (by decide) (t := (.object "java/util/Map")) (t' := (.object "java/util/List")) (by decide) (by decide)))).ext E18).keep Kq25 (ninS ne23 nin0))
  have G27 := ((G24.ext E18).keep Kq25)
  obtain ⟨T28, h28, X28, e28, W28, st28⟩ := putF X25 hx hZ hown (host := "") (Or.inl (hw _ (List.mem_of_getElem? (i := 88) rfl))) Via.refl rfl G26 G27 (Or.inr ⟨(hw _ (List.mem_of_getElem? (i := 89) rfl)), rfl, hnm⟩) (hw _ (List.mem_of_getElem? (i := 27) rfl)) (ty := (.object "java/util/Map")) (by decide) rfl rfl (g := (mkF m 34 #[.val (.ref o0), .val (.ref o1)] [(.ref b18), (.ref o0)])) rfl rfl (hb hby own_dpn_34)
  have N28 := Fr.snoc X28 N25 low_o0
  have K28 := Keep.wr K25 W28 (Or.inl (List.mem_of_getElem? (i := 0) rfl))
  have F28 := G26.same W28
  refine own_st (fun _ => st28 _) ?_
  show own_End p e below P (T28.setTop (mkF m 37 #[.val (.ref o0), .val (.ref o1)] []))
  refine own_st (fun _ => XS.aloadN X28.here hx rfl (hb hby own_dpn_37) rfl rfl) ?_
  show own_End p e below P (T28.setTop (mkF m 38 #[.val (.ref o0), .val (.ref o1)] [(.ref o0)]))
  obtain ⟨T29, h29, X29, e29, E29, A29, D29, -, st29⟩ := newO X28 hx hZ hown (hw _ (List.mem_of_getElem? (i := 62) rfl)) (hw _ (List.mem_of_getElem? (i := 63) rfl)) (hw _ (List.mem_of_getElem? (i := 64) rfl)) e28 (g := (mkF m 38 #[.val (.ref o0), .val (.ref o1)] [(.ref o0)])) rfl (hb hby own_dpn_38) (by decide) (by decide)
  obtain ⟨b29, g29⟩ : ∃ z, z = h28.size := ⟨_, rfl⟩
  rw [← g29] at A29 D29 st29
  have G31 := (f0_25.wr W28)
  have ne30 : b18 ≠ b29 := Nat.ne_of_lt (Nat.lt_of_lt_of_le G31.lt (Nat.le_of_eq g29.symm))
  have G33 := (((G20.ext E18).keep Kq25).wr W28)
  have ne32 : b2 ≠ b29 := Nat.ne_of_lt (Nat.lt_of_lt_of_le G33.lt (Nat.le_of_eq g29.symm))
  have G35 := (((G22.ext E18).keep Kq25).wr W28)
  have ne34 : b8 ≠ b29 := Nat.ne_of_lt (Nat.lt_of_lt_of_le G35.lt (Nat.le_of_eq g29.symm))
  have G37 := (G27.wr W28)
  have ne36 : o0 ≠ b29 := Nat.ne_of_lt (Nat.lt_of_lt_of_le G37.lt (Nat.le_of_eq g29.symm))
  have low_b29 : n0 ≤ b29 := Nat.le_trans (Nat.le_trans Z0 K28.1) (Nat.le_of_eq g29.symm)
  have sz_b29 : h0.size ≤ b29 := Nat.le_trans K28.1 (Nat.le_of_eq g29.symm)
  have K29 := Keep.ext K28 E29
  have F_b29_modCount : Fld Z h29 b29 "java/util/AbstractList" "modCount" "I" (.int (0 : Int32)) := D29 (Or.inl (hw _ (List.mem_of_getElem? (i := 82) rfl))) (ty := .int) (by decide)
  have F_b29_elementData : Fld Z h29 b29 "java/util/ArrayList" "elementData" "[Ljava/lang/Object;" .null := D29 (Or.inl (hw _ (List.mem_of_getElem? (i := 85) rfl))) (ty := (.array (.object "java/lang/Object"))) (by decide)
  refine own_st (fun _ => st29 _) ?_
  show own_End p e below P (T29.setTop (mkF m 41 #[.val (.ref o0), .val (.ref o1)] [(.ref b29), (.ref o0)]))
  refine own_st (fun _ => XS.dup X29.here hx rfl (hb hby own_dpn_41) rfl rfl) ?_
  show own_End p e below P (T29.setTop (mkF m 42 #[.val (.ref o0), .val (.ref o1)] [(.ref b29), (.ref b29), (.ref o0)]))
  have G39 := (((own_StaKeep (((own_StaKeep G14 Kq13 (allS (own_nst A8) all0)).wr W17).ext E18) Kq25 (allS (own_nst A18) all0)).wr W28).ext E29)
  refine own_callI X29 hx hZ (y := (⟨"java/util/ArrayList", "<init>", "()V"⟩ : MethodName)) rfl hown (hw _ (List.mem_of_getElem? (i := 65) rfl)) (hw _ (List.mem_of_getElem? (i := 66) rfl)) (hw _ (List.mem_of_getElem? (i := 64) rfl)) (hw _ (List.mem_of_getElem? (i := 67) rfl)) (by decide) (own_mal l Z a0 hw [] b29 s_ArrayList_DEFAULTCAPACITY_EMPTY_ELEMENTDATA h29 n0 (Nat.le_trans Z0 K29.1) A29 F_b29_modCount F_b29_elementData G39 low_b29) 2 (by decide) (by decide) e29 (by decide) (by decide) (g := (mkF m 42 #[.val (.ref o0), .val (.ref o1)] [(.ref b29), (.ref b29), (.ref o0)])) rfl (by rw [hml']; rfl) (a := b29) (argsL := []) (rest := [(.ref b29), (.ref o0)]) rfl (lenOf own_pd_V_167 rfl) rfl (by show 2 * 0 + _ ≤ _; exact Nat.le_of_eq rfl) (hb hby own_dpn_42) (fun r38 T38 L38 X38 hQ38 => ?_)
  obtain ⟨rfl, Nq38, Kq38, f0_38⟩ := hQ38
  have N38 := Fr.app N28 Nq38
  have K38 := Keep.trans K29 Kq38 (allS (Or.inr sz_b29) all0)
  show own_End p e below P (T38.setTop (mkF m 45 #[.val (.ref o0), .val (.ref o1)] [(.ref b29), (.ref o0)]))
  have G40 := (((((((((((F_o0_requiredChildren.ext E2).keep Kq4 (ninS ne3 nin0)).other W7 (Or.inr (slot_ne (Or.inr (hw _ (List.mem_of_getElem? (i := 91) rfl))) (Or.inr (hw _ (List.mem_of_getElem? (i := 61) rfl))) (by decide) (t := (.object "java/util/List")) (t' := (.object "java/util/Map")) (by decide) (by decide)))).ext E8).keep Kq13 (ninS ne11 nin0)).other W17 (Or.inr (slot_ne (Or.inr (hw _ (List.mem_of_getElem? (i := 91) rfl))) (Or.inr (hw _ (List.mem_of_getElem? (i := 87) rfl))) (by decide) (t := (.object "java/util/List")) (t' := (.object "java/util/List")) (by decide) (by decide)))).ext E18).keep Kq25 (ninS ne23 nin0)).other W28 (Or.inr (slot_ne (Or.inr (hw _ (List.mem_of_getElem? (i := 91) rfl))) (Or.inr (hw _ (List.mem_of_getElem? (i := 89) rfl))) (by decide) (t := (.object "java/util/List")) (t' := (.object "java/util/Map")) (by decide) (by decide)))).ext E29).keep Kq38 (ninS ne36 nin0))
  have G41 := ((G37.ext E29).keep Kq38)
  obtain ⟨T42, h42, X42, e42, W42, st42⟩ := putF X38 hx hZ hown (host := "") (Or.inl (hw _ (List.mem_of_getElem? (i := 90) rfl))) Via.refl rfl G40 G41 (Or.inr ⟨(hw _ (List.mem_of_getElem? (i := 91) rfl)), rfl, hnm⟩) (hw _ (List.mem_of_getElem? (i := 27) rfl)) (ty := (.object "java/util/List")) (by decide) rfl rfl (g := (mkF m 45 #[.val (.ref o0), .val (.ref o1)] [(.ref b29), (.ref o0)])) rfl rfl (hb hby own_dpn_45)
  have N42 := Fr.snoc X42 N38 low_o0
  have K42 := Keep.wr K38 W42 (Or.inl (List.mem_of_getElem? (i := 0) rfl))
  have F42 := G40.same W42
  refine own_st (fun _ => st42 _) ?_
  show own_End p e below P (T42.setTop (mkF m 48 #[.val (.ref o0), .val (.ref o1)] []))
  refine own_st (fun _ => XS.aloadN X42.here hx rfl (hb hby own_dpn_48) rfl rfl) ?_
  show own_End p e below P (T42.setTop (mkF m 49 #[.val (.ref o0), .val (.ref o1)] [(.ref o0)]))
  obtain ⟨T43, h43, X43, e43, E43, A43, D43, -, st43⟩ := newO X42 hx hZ hown (hw _ (List.mem_of_getElem? (i := 62) rfl)) (hw _ (List.mem_of_getElem? (i := 63) rfl)) (hw _ (List.mem_of_getElem? (i := 64) rfl)) e42 (g := (mkF m 49 #[.val (.ref o0), .val (.ref o1)] [(.ref o0)])) rfl (hb hby own_dpn_49) (by decide) (by decide)
  obtain ⟨b43, g43⟩ : ∃ z, z = h42.size := ⟨_, rfl⟩
  rw [← g43] at A43 D43 st43
  have G45 := (((G31.ext E29).keep Kq38).wr W42)
  have ne44 : b18 ≠ b43 := Nat.ne_of_lt (Nat.lt_of_lt_of_le G45.lt (Nat.le_of_eq g43.symm))
  have G47 := (((G33.ext E29).keep Kq38).wr W42)
  have ne46 : b2 ≠ b43 := Nat.ne_of_lt (Nat.lt_of_lt_of_le G47.lt (Nat.le_of_eq g43.symm))
  have G49 := (f0_38.wr W42)
  have ne48 : b29 ≠ b43 := Nat.ne_of_lt (Nat.lt_of_lt_of_le G49.lt (Nat.le_of_eq g43.symm))
  have G51 := (((G35.ext E29).keep Kq38).wr W42)
  have ne50 : b8 ≠ b43 := Nat.ne_of_lt (Nat.lt_of_lt_of_le G51.lt (Nat.le_of_eq g43.symm))
  have G53 := (G41.wr W42)
  have ne52 : o0 ≠ b43 := Nat.ne_of_lt (Nat.lt_of_lt_of_le G53.lt (Nat.le_of_eq g43.symm))
  have low_b43 : n0 ≤ b43 := Nat.le_trans (Nat.le_trans Z0 K42.1) (Nat.le_of_eq g43.symm)
  have sz_b43 : h0.size ≤ b43 := Nat.le_trans K42.1 (Nat.le_of_eq g43.symm)
  have K43 := Keep.ext K42 E43
  have F_b43_modCount : Fld Z h43 b43 "java/util/AbstractList" "modCount" "I" (.int (0 : Int32)) := D43 (Or.inl (hw _ (List.mem_of_getElem? (i := 82) rfl))) (ty := .int) (by decide)
  have F_b43_elementData : Fld Z h43 b43 "java/util/ArrayList" "elementData" "[Ljava/lang/Object;" .null := D43 (Or.inl (hw _ (List.mem_of_getElem? (i := 85) rfl))) (ty := (.array (.object "java/lang/Object"))) (by decide)
  refine own_st (fun _ => st43 _) ?_
  show own_End p e below P (T43.setTop (mkF m 52 #[.val (.ref o0), .val (.ref o1)] [(.ref b43), (.ref o0)]))
  refine own_st (fun _ => XS.dup X43.here hx rfl (hb hby own_dpn_52) rfl rfl) ?_
  show own_End p e below P (T43.setTop (mkF m 53 #[.val (.ref o0), .val (.ref o1)] [(.ref b43), (.ref b43), (.ref o0)]))
  have G55 := (((own_StaKeep G39 Kq38 (allS (own_nst A29) all0)).wr W42).ext E43)
  refine own_callI X43 hx hZ (y := (⟨"java/util/ArrayList", "<init>", "()V"⟩ : MethodName)) rfl hown (hw _ (List.mem_of_getElem? (i := 65) rfl)) (hw _ (List.mem_of_getElem? (i := 66) rfl)) (hw _ (List.mem_of_getElem? (i := 64) rfl)) (hw _ (List.mem_of_getElem? (i := 67) rfl)) (by decide) (own_mal l Z a0 hw [] b43 s_ArrayList_DEFAULTCAPACITY_EMPTY_ELEMENTDATA h43 n0 (Nat.le_trans Z0 K43.1) A43 F_b43_modCount F_b43_elementData G55 low_b43) 2 (by decide) (by decide) e43 (by decide) (by decide) (g := (mkF m 53 #[.val (.ref o0), .val (.ref o1)] [(.ref b43), (.ref b43), (.ref o0)])) rfl (by rw [hml']; rfl) (a := b43) (argsL := []) (rest := [(.ref b43), (.ref o0)]) rfl (lenOf own_pd_V_167 rfl) rfl (by show 2 * 0 + _ ≤ _; exact Nat.le_of_eq rfl) (hb hby own_dpn_53) (fun r54 T54 L54 X54 hQ54 => ?_)
  obtain ⟨rfl, Nq54, Kq54, f0_54⟩ := hQ54
  have N54 := Fr.app N42 Nq54
  have K54 := Keep.trans K43 Kq54 (allS (Or.inr sz_b43) all0)
  show own_End p e below P (T54.setTop (mkF m 56 #[.val (.ref o0), .val (.ref o1)] [(.ref b43), (.ref o0)]))
  have G56 := ((((((((((((((F_o0_rules.ext E2).keep Kq4 (ninS ne3 nin0)).other W7 (Or.inr (slot_ne (Or.inr (hw _ (List.mem_of_getElem? (i := 93) rfl))) (Or.inr (hw _ (List.mem_of_getElem? (i := 61) rfl))) (by decide) (t := (.object "java/util/List")) (t' := (.object "java/util/Map")) (by decide) (by decide)))).ext E8).keep Kq13 (ninS ne11 nin0)).other W17 (Or.inr (slot_ne (Or.inr (hw _ (List.mem_of_getElem? (i := 93) rfl))) (Or.inr (hw _ (List.mem_of_getElem? (i := 87) rfl))) (by decide) (t := (.object "java/util/List")) (t' := (.object "java/util/List")) (by decide) (by decide)))).ext E18).keep Kq25 (ninS ne23 nin0)).other W28 (Or.inr (slot_ne (Or.inr (hw _ (List.mem_of_getElem? (i := 93) rfl))) (Or.inr (hw _ (List.mem_of_getElem? (i := 89) rfl))) (by decide) (t := (.object "java/util/List")) (t' := (.object "java/util/Map")) (by decide) (by decide)))).ext E29).keep Kq38 (ninS ne36 nin0)).other W42 (Or.inr (slot_ne (Or.inr (hw _ (List.mem_of_getElem? (i := 93) rfl))) (Or.inr (hw _ (List.mem_of_getElem? (i := 91) rfl))) (by decide) (t := (.object "java/util/List")) (t' := (.object "java/util/List")) (by decide) (by decide)))).ext E43).keep Kq54 (ninS ne52 nin0))
  have G57 := ((G53.ext E43).keep Kq54)
  obtain ⟨T58, h58, X58, e58, W58, st58⟩ := putF X54 hx hZ hown (host := "") (Or.inl (hw _ (List.mem_of_getElem? (i := 92) rfl))) Via.refl rfl G56 G57 (Or.inr ⟨(hw _ (List.mem_of_getElem? (i := 93) rfl)), rfl, hnm⟩) (hw _ (List.mem_of_getElem? (i := 27) rfl)) (ty := (.object "java/util/List")) (by decide) rfl rfl (g := (mkF m 56 #[.val (.ref o0), .val (.ref o1)] [(.ref b43), (.ref o0)])) rfl rfl (hb hby own_dpn_56)
  have N58 := Fr.snoc X58 N54 low_o0
  have K58 := Keep.wr K54 W58 (Or.inl (List.mem_of_getElem? (i := 0) rfl))
  have F58 := G56.same W58
  refine own_st (fun _ => st58 _) ?_
  show own_End p e below P (T58.setTop (mkF m 59 #[.val (.ref o0), .val (.ref o1)] []))
  refine own_st (fun _ => XS.aloadN X58.here hx rfl (hb hby own_dpn_59) rfl rfl) ?_
  show own_End p e below P (T58.setTop (mkF m 60 #[.val (.ref o0), .val (.ref o1)] [(.ref o0)]))
  obtain ⟨T59, h59, X59, e59, E59, A59, D59, -, st59⟩ := newO X58 hx hZ hown (hw _ (List.mem_of_getElem? (i := 62) rfl)) (hw _ (List.mem_of_getElem? (i := 63) rfl)) (hw _ (List.mem_of_getElem? (i := 64) rfl)) e58 (g := (mkF m 60 #[.val (.ref o0), .val (.ref o1)] [(.ref o0)])) rfl (hb hby own_dpn_60) (by decide) (by decide)
  obtain ⟨b59, g59⟩ : ∃ z, z = h58.size := ⟨_, rfl⟩
  rw [← g59] at A59 D59 st59
  have G61 := (((G45.ext E43).keep Kq54).wr W58)
  have ne60 : b18 ≠ b59 := Nat.ne_of_lt (Nat.lt_of_lt_of_le G61.lt (Nat.le_of_eq g59.symm))
  have G63 := (((G47.ext E43).keep Kq54).wr W58)
  have ne62 : b2 ≠ b59 := Nat.ne_of_lt (Nat.lt_of_lt_of_le G63.lt (Nat.le_of_eq g59.symm))
  have G65 := (((G49.ext E43).keep Kq54).wr W58)
  have ne64 : b29 ≠ b59 := Nat.ne_of_lt (Nat.lt_of_lt_of_le G65.lt (Nat.le_of_eq g59.symm))
  have G67 := (f0_54.wr W58)
  have ne66 : b43 ≠ b59 := Nat.ne_of_lt (Nat.lt_of_lt_of_le G67.lt (Nat.le_of_eq g59.symm))
  have G69 := (((G51.ext E43).keep Kq54).wr W58)
  have ne68 : b8 ≠ b59 := Nat.ne_of_lt (Nat.lt_of_lt_of_le G69.lt (Nat.le_of_eq g59.symm))
  have G71 := (G57.wr W58)
  have ne70 : o0 ≠ b59 := Nat.ne_of_lt (Nat.lt_of_lt_of_le G71.lt (Nat.le_of_eq g59.symm))
  have low_b59 : n0 ≤ b59 := Nat.le_trans (Nat.le_trans Z0 K58.1) (Nat.le_of_eq g59.symm)
  have sz_b59 : h0.size ≤ b59 := Nat.le_trans K58.1 (Nat.le_of_eq g59.symm)
  have K59 := Keep.ext K58 E59
  have F_b59_modCount : Fld Z h59 b59 "java/util/AbstractList" "modCount" "I" (.int (0 : Int32)) := D59 (Or.inl (hw _ (List.mem_of_getElem? (i := 82) rfl))) (ty := .int) (by decide)
  have F_b59_elementData : Fld Z h59 b59 "java/util/ArrayList" "elementData" "[Ljava/lang/Object;" .null := D59 (Or.inl (hw _ (List.mem_of_getElem? (i := 85) rfl))) (ty := (.array (.object "java/lang/Object"))) (by decide)
  refine own_st (fun _ => st59 _) ?_
  show own_End p e below P (T59.setTop (mkF m 63 #[.val (.ref o0), .val (.ref o1)] [(.ref b59), (.ref o0)]))
  refine own_st (fun _ => XS.dup X59.here hx rfl (hb hby own_dpn_63) rfl rfl) ?_
  show own_End p e below P (T59.setTop (mkF m 64 #[.val (.ref o0), .val (.ref o1)] [(.ref b59), (.ref b59), (.ref o0)]))
  have G73 := (((own_StaKeep G55 Kq54 (allS (own_nst A43) all0)).wr W58).ext E59)
  refine own_callI X59 hx hZ (y := (⟨"java/util/ArrayList", "<init>", "()V"⟩ : MethodName)) rfl hown (hw _ (List.mem_of_getElem? (i := 65) rfl)) (hw _ (List.mem_of_getElem? (i := 66) rfl)) (hw _ (List.mem_of_getElem? (i := 64) rfl)) (hw _ (List.mem_of_getElem? (i := 67) rfl)) (by decide) (own_mal l Z a0 hw [] b59 s_ArrayList_DEFAULTCAPACITY_EMPTY_ELEMENTDATA h59 n0 (Nat.le_trans Z0 K59.1) A59 F_b59_modCount F_b59_elementData G73 low_b59) 2 (by decide) (by decide) e59 (by decide) (by decide) (g := (mkF m 64 #[.val (.ref o0), .val (.ref o1)] [(.ref b59), (.ref b59), (.ref o0)])) rfl (by rw [hml']; rfl) (a := b59) (argsL := []) (rest := [(.ref b59), (.ref o0)]) rfl (lenOf own_pd_V_167 rfl) rfl (by show 2 * 0 + _ ≤ _; exact Nat.le_of_eq rfl) (hb hby own_dpn_64) (fun r72 T72 L72 X72 hQ72 => ?_)
  obtain ⟨rfl, Nq72, Kq72, f0_72⟩ := hQ72
  have N72 := Fr.app N58 Nq72
  have K72 := Keep.trans K59 Kq72 (allS (Or.inr sz_b59) all0)
  show own_End p e below P (T72.setTop (mkF m 67 #[.val (.ref o0), .val (.ref o1)] [(.ref b59), (.ref o0)]))
  have G74 := (((((((((((((((((F_o0_facts.ext E2).keep Kq4 (ninS ne3 nin0)).other W7 (Or.inr (slot_ne (Or.inr (hw _ (List.mem_of_getElem? (i := 95) rfl))) (Or.inr (hw _ (List.mem_of_getElem? (i := 61) rfl))) (by decide) (t := (.object "java/util/List")) (t' := (.object "java/util/Map")) (by decide) (by decide)))).ext E8).keep Kq13 (ninS ne11 nin0)).other W17 (Or.inr (slot_ne (Or.inr (hw _ (List.mem_of_getElem? (i := 95) rfl))) (Or.inr (hw _ (List.mem_of_getElem? (i := 87) rfl))) (by decide) (t := (.object "java/util/List")) (t' := (.object "java/util/List")) (by decide) (by decide)))).ext E18).keep Kq25 (ninS ne23 nin0)).other W28 (Or.inr (slot_ne (Or.inr (hw _ (List.mem_of_getElem? (i := 95) rfl))) (Or.inr (hw _ (List.mem_of_getElem? (i := 89) rfl))) (by decide) (t := (.object "java/util/List")) (t' := (.object "java/util/Map")) (by decide) (by decide)))).ext E29).keep Kq38 (ninS ne36 nin0)).other W42 (Or.inr (slot_ne (Or.inr (hw _ (List.mem_of_getElem? (i := 95) rfl))) (Or.inr (hw _ (List.mem_of_getElem? (i := 91) rfl))) (by decide) (t := (.object "java/util/List")) (t' := (.object "java/util/List")) (by decide) (by decide)))).ext E43).keep Kq54 (ninS ne52 nin0)).other W58 (Or.inr (slot_ne (Or.inr (hw _ (List.mem_of_getElem? (i := 95) rfl))) (Or.inr (hw _ (List.mem_of_getElem? (i := 93) rfl))) (by decide) (t := (.object "java/util/List")) (t' := (.object "java/util/List")) (by decide) (by decide)))).ext E59).keep Kq72 (ninS ne70 nin0))
  have G75 := ((G71.ext E59).keep Kq72)
  obtain ⟨T76, h76, X76, e76, W76, st76⟩ := putF X72 hx hZ hown (host := "") (Or.inl (hw _ (List.mem_of_getElem? (i := 94) rfl))) Via.refl rfl G74 G75 (Or.inr ⟨(hw _ (List.mem_of_getElem? (i := 95) rfl)), rfl, hnm⟩) (hw _ (List.mem_of_getElem? (i := 27) rfl)) (ty := (.object "java/util/List")) (by decide) rfl rfl (g := (mkF m 67 #[.val (.ref o0), .val (.ref o1)] [(.ref b59), (.ref o0)])) rfl rfl (hb hby own_dpn_67)
  have N76 := Fr.snoc X76 N72 low_o0
  have K76 := Keep.wr K72 W76 (Or.inl (List.mem_of_getElem? (i := 0) rfl))
  have F76 := G74.same W76
  refine own_st (fun _ => st76 _) ?_
  show own_End p e below P (T76.setTop (mkF m 70 #[.val (.ref o0), .val (.ref o1)] []))
  refine own_st (fun _ => XS.aloadN X76.here hx rfl (hb hby own_dpn_70) rfl rfl) ?_
  show own_End p e below P (T76.setTop (mkF m 71 #[.val (.ref o0), .val (.ref o1)] [(.ref o0)]))
  obtain ⟨T77, h77, X77, e77, E77, A77, D77, -, st77⟩ := newO X76 hx hZ hown (hw _ (List.mem_of_getElem? (i := 62) rfl)) (hw _ (List.mem_of_getElem? (i := 63) rfl)) (hw _ (List.mem_of_getElem? (i := 64) rfl)) e76 (g := (mkF m 71 #[.val (.ref o0), .val (.ref o1)] [(.ref o0)])) rfl (hb hby own_dpn_71) (by decide) (by decide)
  obtain ⟨b77, g77⟩ : ∃ z, z = h76.size := ⟨_, rfl⟩
  rw [← g77] at A77 D77 st77
  have G79 := (((G61.ext E59).keep Kq72).wr W76)
  have ne78 : b18 ≠ b77 := Nat.ne_of_lt (Nat.lt_of_lt_of_le G79.lt (Nat.le_of_eq g77.symm))
  have G81 := (((G63.ext E59).keep Kq72).wr W76)
  have ne80 : b2 ≠ b77 := Nat.ne_of_lt (Nat.lt_of_lt_of_le G81.lt (Nat.le_of_eq g77.symm))
  have G83 := (((G65.ext E59).keep Kq72).wr W76)
  have ne82 : b29 ≠ b77 := Nat.ne_of_lt (Nat.lt_of_lt_of_le G83.lt (Nat.le_of_eq g77.symm))
  have G85 := (((G67.ext E59).keep Kq72).wr W76)
  have ne84 : b43 ≠ b77 := Nat.ne_of_lt (Nat.lt_of_lt_of_le G85.lt (Nat.le_of_eq g77.symm))
  have G87 := (f0_72.wr W76)
  have ne86 : b59 ≠ b77 := Nat.ne_of_lt (Nat.lt_of_lt_of_le G87.lt (Nat.le_of_eq g77.symm))
  have G89 := (((G69.ext E59).keep Kq72).wr W76)
  have ne88 : b8 ≠ b77 := Nat.ne_of_lt (Nat.lt_of_lt_of_le G89.lt (Nat.le_of_eq g77.symm))
  have G91 := (G75.wr W76)
  have ne90 : o0 ≠ b77 := Nat.ne_of_lt (Nat.lt_of_lt_of_le G91.lt (Nat.le_of_eq g77.symm))
  have low_b77 : n0 ≤ b77 := Nat.le_trans (Nat.le_trans Z0 K76.1) (Nat.le_of_eq g77.symm)
  have sz_b77 : h0.size ≤ b77 := Nat.le_trans K76.1 (Nat.le_of_eq g77.symm)
  have K77 := Keep.ext K76 E77
  have F_b77_modCount : Fld Z h77 b77 "java/util/AbstractList" "modCount" "I" (.int (0 : Int32)) := D77 (Or.inl (hw _ (List.mem_of_getElem? (i := 82) rfl))) (ty := .int) (by decide)
  have F_b77_elementData : Fld Z h77 b77 "java/util/ArrayList" "elementData" "[Ljava/lang/Object;" .null := D77 (Or.inl (hw _ (List.mem_of_getElem? (i := 85) rfl))) (ty := (.array (.object "java/lang/Object"))) (by decide)
  refine own_st (fun _ => st77 _) ?_
  show own_End p e below P (T77.setTop (mkF m 74 #[.val (.ref o0), .val (.ref o1)] [(.ref b77), (.ref o0)]))
  refine own_st (fun _ => XS.dup X77.here hx rfl (hb hby own_dpn_74) rfl rfl) ?_
  show own_End p e below P (T77.setTop (mkF m 75 #[.val (.ref o0), .val (.ref o1)] [(.ref b77), (.ref b77), (.ref o0)]))
  have G93 := (((own_StaKeep G73 Kq72 (allS (own_nst A59) all0)).wr W76).ext E77)
  refine own_callI X77 hx hZ (y := (⟨"java/util/ArrayList", "<init>", "()V"⟩ : MethodName)) rfl hown (hw _ (List.mem_of_getElem? (i := 65) rfl)) (hw _ (List.mem_of_getElem? (i := 66) rfl)) (hw _ (List.mem_of_getElem? (i := 64) rfl)) (hw _ (List.mem_of_getElem? (i := 67) rfl)) (by decide) (own_mal l Z a0 hw [] b77 s_ArrayList_DEFAULTCAPACITY_EMPTY_ELEMENTDATA h77 n0 (Nat.le_trans Z0 K77.1) A77 F_b77_modCount F_b77_elementData G93 low_b77) 2 (by decide) (by decide) e77 (by decide) (by decide) (g := (mkF m 75 #[.val (.ref o0), .val (.ref o1)] [(.ref b77), (.ref b77), (.ref o0)])) rfl (by rw [hml']; rfl) (a := b77) (argsL := []) (rest := [(.ref b77), (.ref o0)]) rfl (lenOf own_pd_V_167 rfl) rfl (by show 2 * 0 + _ ≤ _; exact Nat.le_of_eq rfl) (hb hby own_dpn_75) (fun r92 T92 L92 X92 hQ92 => ?_)
  obtain ⟨rfl, Nq92, Kq92, f0_92⟩ := hQ92
  have N92 := Fr.app N76 Nq92
  have K92 := Keep.trans K77 Kq92 (allS (Or.inr sz_b77) all0)
  show own_End p e below P (T92.setTop (mkF m 78 #[.val (.ref o0), .val (.ref o1)] [(.ref b77), (.ref o0)]))
  have G94 := ((((((((((((((((((((F_o0_valueFacts.ext E2).keep Kq4 (ninS ne3 nin0)).other W7 (Or.inr (slot_ne (Or.inr (hw _ (List.mem_of_getElem? (i := 97) rfl))) (Or.inr (hw _ (List.mem_of_getElem? (i := 61) rfl))) (by decide) (t := (.object "java/util/List")) (t' := (.object "java/util/Map")) (by decide) (by decide)))).ext E8).keep Kq13 (ninS ne11 nin0)).other W17 (Or.inr (slot_ne (Or.inr (hw _ (List.mem_of_getElem? (i := 97) rfl))) (Or.inr (hw _ (List.mem_of_getElem? (i := 87) rfl))) (by decide) (t := (.object "java/util/List")) (t' := (.object "java/util/List")) (by decide) (by decide)))).ext E18).keep Kq25 (ninS ne23 nin0)).other W28 (Or.inr (slot_ne (Or.inr (hw _ (List.mem_of_getElem? (i := 97) rfl))) (Or.inr (hw _ (List.mem_of_getElem? (i := 89) rfl))) (by decide) (t := (.object "java/util/List")) (t' := (.object "java/util/Map")) (by decide) (by decide)))).ext E29).keep Kq38 (ninS ne36 nin0)).other W42 (Or.inr (slot_ne (Or.inr (hw _ (List.mem_of_getElem? (i := 97) rfl))) (Or.inr (hw _ (List.mem_of_getElem? (i := 91) rfl))) (by decide) (t := (.object "java/util/List")) (t' := (.object "java/util/List")) (by decide) (by decide)))).ext E43).keep Kq54 (ninS ne52 nin0)).other W58 (Or.inr (slot_ne (Or.inr (hw _ (List.mem_of_getElem? (i := 97) rfl))) (Or.inr (hw _ (List.mem_of_getElem? (i := 93) rfl))) (by decide) (t := (.object "java/util/List")) (t' := (.object "java/util/List")) (by decide) (by decide)))).ext E59).keep Kq72 (ninS ne70 nin0)).other W76 (Or.inr (slot_ne (Or.inr (hw _ (List.mem_of_getElem? (i := 97) rfl))) (Or.inr (hw _ (List.mem_of_getElem? (i := 95) rfl))) (by decide) (t := (.object "java/util/List")) (t' := (.object "java/util/List")) (by decide) (by decide)))).ext E77).keep Kq92 (ninS ne90 nin0))
  have G95 := ((G91.ext E77).keep Kq92)
  obtain ⟨T96, h96, X96, e96, W96, st96⟩ := putF X92 hx hZ hown (host := "") (Or.inl (hw _ (List.mem_of_getElem? (i := 96) rfl))) Via.refl rfl G94 G95 (Or.inr ⟨(hw _ (List.mem_of_getElem? (i := 97) rfl)), rfl, hnm⟩) (hw _ (List.mem_of_getElem? (i := 27) rfl)) (ty := (.object "java/util/List")) (by decide) rfl rfl (g := (mkF m 78 #[.val (.ref o0), .val (.ref o1)] [(.ref b77), (.ref o0)])) rfl rfl (hb hby own_dpn_78)
  have N96 := Fr.snoc X96 N92 low_o0
  have K96 := Keep.wr K92 W96 (Or.inl (List.mem_of_getElem? (i := 0) rfl))
  have F96 := G94.same W96
  refine own_st (fun _ => st96 _) ?_
  show own_End p e below P (T96.setTop (mkF m 81 #[.val (.ref o0), .val (.ref o1)] []))
  refine own_st (fun _ => XS.aloadN X96.here hx rfl (hb hby own_dpn_81) rfl rfl) ?_
  show own_End p e below P (T96.setTop (mkF m 82 #[.val (.ref o0), .val (.ref o1)] [(.ref o0)]))
  obtain ⟨T97, h97, X97, e97, E97, A97, D97, -, st97⟩ := newO X96 hx hZ hown (hw _ (List.mem_of_getElem? (i := 62) rfl)) (hw _ (List.mem_of_getElem? (i := 63) rfl)) (hw _ (List.mem_of_getElem? (i := 64) rfl)) e96 (g := (mkF m 82 #[.val (.ref o0), .val (.ref o1)] [(.ref o0)])) rfl (hb hby own_dpn_82) (by decide) (by decide)
  obtain ⟨b97, g97⟩ : ∃ z, z = h96.size := ⟨_, rfl⟩
  rw [← g97] at A97 D97 st97
  have G99 := (((G79.ext E77).keep Kq92).wr W96)
  have ne98 : b18 ≠ b97 := Nat.ne_of_lt (Nat.lt_of_lt_of_le G99.lt (Nat.le_of_eq g97.symm))
  have G101 := (((G81.ext E77).keep Kq92).wr W96)
  have ne100 : b2 ≠ b97 := Nat.ne_of_lt (Nat.lt_of_lt_of_le G101.lt (Nat.le_of_eq g97.symm))
  have G103 := (((G83.ext E77).keep Kq92).wr W96)
  have ne102 : b29 ≠ b97 := Nat.ne_of_lt (Nat.lt_of_lt_of_le G103.lt (Nat.le_of_eq g97.symm))
  have G105 := (((G85.ext E77).keep Kq92).wr W96)
  have ne104 : b43 ≠ b97 := Nat.ne_of_lt (Nat.lt_of_lt_of_le G105.lt (Nat.le_of_eq g97.symm))
  have G107 := (((G87.ext E77).keep Kq92).wr W96)
  have ne106 : b59 ≠ b97 := Nat.ne_of_lt (Nat.lt_of_lt_of_le G107.lt (Nat.le_of_eq g97.symm))
  have G109 := (f0_92.wr W96)
  have ne108 : b77 ≠ b97 := Nat.ne_of_lt (Nat.lt_of_lt_of_le G109.lt (Nat.le_of_eq g97.symm))
  have G111 := (((G89.ext E77).keep Kq92).wr W96)
  have ne110 : b8 ≠ b97 := Nat.ne_of_lt (Nat.lt_of_lt_of_le G111.lt (Nat.le_of_eq g97.symm))
  have G113 := (G95.wr W96)
  have ne112 : o0 ≠ b97 := Nat.ne_of_lt (Nat.lt_of_lt_of_le G113.lt (Nat.le_of_eq g97.symm))
  have low_b97 : n0 ≤ b97 := Nat.le_trans (Nat.le_trans Z0 K96.1) (Nat.le_of_eq g97.symm)
  have sz_b97 : h0.size ≤ b97 := Nat.le_trans K96.1 (Nat.le_of_eq g97.symm)
  have K97 := Keep.ext K96 E97
  have F_b97_modCount : Fld Z h97 b97 "java/util/AbstractList" "modCount" "I" (.int (0 : Int32)) := D97 (Or.inl (hw _ (List.mem_of_getElem? (i := 82) rfl))) (ty := .int) (by decide)
  have F_b97_elementData : Fld Z h97 b97 "java/util/ArrayList" "elementData" "[Ljava/lang/Object;" .null := D97 (Or.inl (hw _ (List.mem_of_getElem? (i := 85) rfl))) (ty := (.array (.object "java/lang/Object"))) (by decide)
  refine own_st (fun _ => st97 _) ?_
  show own_End p e below P (T97.setTop (mkF m 85 #[.val (.ref o0), .val (.ref o1)] [(.ref b97), (.ref o0)]))
  refine own_st (fun _ => XS.dup X97.here hx rfl (hb hby own_dpn_85) rfl rfl) ?_
  show own_End p e below P (T97.setTop (mkF m 86 #[.val (.ref o0), .val (.ref o1)] [(.ref b97), (.ref b97), (.ref o0)]))
  have G115 := (((own_StaKeep G93 Kq92 (allS (own_nst A77) all0)).wr W96).ext E97)
  refine own_callI X97 hx hZ (y := (⟨"java/util/ArrayList", "<init>", "()V"⟩ : MethodName)) rfl hown (hw _ (List.mem_of_getElem? (i := 65) rfl)) (hw _ (List.mem_of_getElem? (i := 66) rfl)) (hw _ (List.mem_of_getElem? (i := 64) rfl)) (hw _ (List.mem_of_getElem? (i := 67) rfl)) (by decide) (own_mal l Z a0 hw [] b97 s_ArrayList_DEFAULTCAPACITY_EMPTY_ELEMENTDATA h97 n0 (Nat.le_trans Z0 K97.1) A97 F_b97_modCount F_b97_elementData G115 low_b97) 2 (by decide) (by decide) e97 (by decide) (by decide) (g := (mkF m 86 #[.val (.ref o0), .val (.ref o1)] [(.ref b97), (.ref b97), (.ref o0)])) rfl (by rw [hml']; rfl) (a := b97) (argsL := []) (rest := [(.ref b97), (.ref o0)]) rfl (lenOf own_pd_V_167 rfl) rfl (by show 2 * 0 + _ ≤ _; exact Nat.le_of_eq rfl) (hb hby own_dpn_86) (fun r114 T114 L114 X114 hQ114 => ?_)
  obtain ⟨rfl, Nq114, Kq114, f0_114⟩ := hQ114
  have N114 := Fr.app N96 Nq114
  have K114 := Keep.trans K97 Kq114 (allS (Or.inr sz_b97) all0)
  show own_End p e below P (T114.setTop (mkF m 89 #[.val (.ref o0), .val (.ref o1)] [(.ref b97), (.ref o0)]))
  have G116 := (((((((((((((((((((((((F_o0_textFacts.ext E2).keep Kq4 (ninS ne3 nin0)).other W7 (Or.inr (slot_ne (Or.inr (hw _ (List.mem_of_getElem? (i := 99) rfl))) (Or.inr (hw _ (List.mem_of_getElem? (i := 61) rfl))) (by decide) (t := (.object "java/util/List")) (t' := (.object "java/util/Map")) (by decide) (by decide)))).ext E8).keep Kq13 (ninS ne11 nin0)).other W17 (Or.inr (slot_ne (Or.inr (hw _ (List.mem_of_getElem? (i := 99) rfl))) (Or.inr (hw _ (List.mem_of_getElem? (i := 87) rfl))) (by decide) (t := (.object "java/util/List")) (t' := (.object "java/util/List")) (by decide) (by decide)))).ext E18).keep Kq25 (ninS ne23 nin0)).other W28 (Or.inr (slot_ne (Or.inr (hw _ (List.mem_of_getElem? (i := 99) rfl))) (Or.inr (hw _ (List.mem_of_getElem? (i := 89) rfl))) (by decide) (t := (.object "java/util/List")) (t' := (.object "java/util/Map")) (by decide) (by decide)))).ext E29).keep Kq38 (ninS ne36 nin0)).other W42 (Or.inr (slot_ne (Or.inr (hw _ (List.mem_of_getElem? (i := 99) rfl))) (Or.inr (hw _ (List.mem_of_getElem? (i := 91) rfl))) (by decide) (t := (.object "java/util/List")) (t' := (.object "java/util/List")) (by decide) (by decide)))).ext E43).keep Kq54 (ninS ne52 nin0)).other W58 (Or.inr (slot_ne (Or.inr (hw _ (List.mem_of_getElem? (i := 99) rfl))) (Or.inr (hw _ (List.mem_of_getElem? (i := 93) rfl))) (by decide) (t := (.object "java/util/List")) (t' := (.object "java/util/List")) (by decide) (by decide)))).ext E59).keep Kq72 (ninS ne70 nin0)).other W76 (Or.inr (slot_ne (Or.inr (hw _ (List.mem_of_getElem? (i := 99) rfl))) (Or.inr (hw _ (List.mem_of_getElem? (i := 95) rfl))) (by decide) (t := (.object "java/util/List")) (t' := (.object "java/util/List")) (by decide) (by decide)))).ext E77).keep Kq92 (ninS ne90 nin0)).other W96 (Or.inr (slot_ne (Or.inr (hw _ (List.mem_of_getElem? (i := 99) rfl))) (Or.inr (hw _ (List.mem_of_getElem? (i := 97) rfl))) (by decide) (t := (.object "java/util/List")) (t' := (.object "java/util/List")) (by decide) (by decide)))).ext E97).keep Kq114 (ninS ne112 nin0))
  have G117 := ((G113.ext E97).keep Kq114)
  obtain ⟨T118, h118, X118, e118, W118, st118⟩ := putF X114 hx hZ hown (host := "") (Or.inl (hw _ (List.mem_of_getElem? (i := 98) rfl))) Via.refl rfl G116 G117 (Or.inr ⟨(hw _ (List.mem_of_getElem? (i := 99) rfl)), rfl, hnm⟩) (hw _ (List.mem_of_getElem? (i := 27) rfl)) (ty := (.object "java/util/List")) (by decide) rfl rfl (g := (mkF m 89 #[.val (.ref o0), .val (.ref o1)] [(.ref b97), (.ref o0)])) rfl rfl (hb hby own_dpn_89)
  have N118 := Fr.snoc X118 N114 low_o0
  have K118 := Keep.wr K114 W118 (Or.inl (List.mem_of_getElem? (i := 0) rfl))
  have F118 := G116.same W118
  refine own_st (fun _ => st118 _) ?_
  show own_End p e below P (T118.setTop (mkF m 92 #[.val (.ref o0), .val (.ref o1)] []))
  refine own_st (fun _ => XS.aloadN X118.here hx rfl (hb hby own_dpn_92) rfl rfl) ?_
  show own_End p e below P (T118.setTop (mkF m 93 #[.val (.ref o0), .val (.ref o1)] [(.ref o0)]))
  obtain ⟨T119, h119, X119, e119, E119, A119, D119, -, st119⟩ := newO X118 hx hZ hown (hw _ (List.mem_of_getElem? (i := 62) rfl)) (hw _ (List.mem_of_getElem? (i := 63) rfl)) (hw _ (List.mem_of_getElem? (i := 64) rfl)) e118 (g := (mkF m 93 #[.val (.ref o0), .val (.ref o1)] [(.ref o0)])) rfl (hb hby own_dpn_93) (by decide) (by decide)
  obtain ⟨b119, g119⟩ : ∃ z, z = h118.size := ⟨_, rfl⟩
  rw [← g119] at A119 D119 st119
  have G121 := (((G99.ext E97).keep Kq114).wr W118)
  have ne120 : b18 ≠ b119 := Nat.ne_of_lt (Nat.lt_of_lt_of_le G121.lt (Nat.le_of_eq g119.symm))
  have G123 := (((G101.ext E97).keep Kq114).wr W118)
  have ne122 : b2 ≠ b119 := Nat.ne_of_lt (Nat.lt_of_lt_of_le G123.lt (Nat.le_of_eq g119.symm))
  have G125 := (((G103.ext E97).keep Kq114).wr W118)
  have ne124 : b29 ≠ b119 := Nat.ne_of_lt (Nat.lt_of_lt_of_le G125.lt (Nat.le_of_eq g119.symm))
  have G127 := (((G105.ext E97).keep Kq114).wr W118)
  have ne126 : b43 ≠ b119 := Nat.ne_of_lt (Nat.lt_of_lt_of_le G127.lt (Nat.le_of_eq g119.symm))
  have G129 := (((G107.ext E97).keep Kq114).wr W118)
  have ne128 : b59 ≠ b119 := Nat.ne_of_lt (Nat.lt_of_lt_of_le G129.lt (Nat.le_of_eq g119.symm))
  have G131 := (((G109.ext E97).keep Kq114).wr W118)
  have ne130 : b77 ≠ b119 := Nat.ne_of_lt (Nat.lt_of_lt_of_le G131.lt (Nat.le_of_eq g119.symm))
  have G133 := (((G111.ext E97).keep Kq114).wr W118)
  have ne132 : b8 ≠ b119 := Nat.ne_of_lt (Nat.lt_of_lt_of_le G133.lt (Nat.le_of_eq g119.symm))
  have G135 := (f0_114.wr W118)
  have ne134 : b97 ≠ b119 := Nat.ne_of_lt (Nat.lt_of_lt_of_le G135.lt (Nat.le_of_eq g119.symm))
  have G137 := (G117.wr W118)
  have ne136 : o0 ≠ b119 := Nat.ne_of_lt (Nat.lt_of_lt_of_le G137.lt (Nat.le_of_eq g119.symm))
  have low_b119 : n0 ≤ b119 := Nat.le_trans (Nat.le_trans Z0 K118.1) (Nat.le_of_eq g119.symm)
  have sz_b119 : h0.size ≤ b119 := Nat.le_trans K118.1 (Nat.le_of_eq g119.symm)
  have K119 := Keep.ext K118 E119
  have F_b119_modCount : Fld Z h119 b119 "java/util/AbstractList" "modCount" "I" (.int (0 : Int32)) := D119 (Or.inl (hw _ (List.mem_of_getElem? (i := 82) rfl))) (ty := .int) (by decide)
  have F_b119_elementData : Fld Z h119 b119 "java/util/ArrayList" "elementData" "[Ljava/lang/Object;" .null := D119 (Or.inl (hw _ (List.mem_of_getElem? (i := 85) rfl))) (ty := (.array (.object "java/lang/Object"))) (by decide)
  refine own_st (fun _ => st119 _) ?_
  show own_End p e below P (T119.setTop (mkF m 96 #[.val (.ref o0), .val (.ref o1)] [(.ref b119), (.ref o0)]))
  refine own_st (fun _ => XS.dup X119.here hx rfl (hb hby own_dpn_96) rfl rfl) ?_
  show own_End p e below P (T119.setTop (mkF m 97 #[.val (.ref o0), .val (.ref o1)] [(.ref b119), (.ref b119), (.ref o0)]))
  have G139 := (((own_StaKeep G115 Kq114 (allS (own_nst A97) all0)).wr W118).ext E119)
  refine own_callI X119 hx hZ (y := (⟨"java/util/ArrayList", "<init>", "()V"⟩ : MethodName)) rfl hown (hw _ (List.mem_of_getElem? (i := 65) rfl)) (hw _ (List.mem_of_getElem? (i := 66) rfl)) (hw _ (List.mem_of_getElem? (i := 64) rfl)) (hw _ (List.mem_of_getElem? (i := 67) rfl)) (by decide) (own_mal l Z a0 hw [] b119 s_ArrayList_DEFAULTCAPACITY_EMPTY_ELEMENTDATA h119 n0 (Nat.le_trans Z0 K119.1) A119 F_b119_modCount F_b119_elementData G139 low_b119) 2 (by decide) (by decide) e119 (by decide) (by decide) (g := (mkF m 97 #[.val (.ref o0), .val (.ref o1)] [(.ref b119), (.ref b119), (.ref o0)])) rfl (by rw [hml']; rfl) (a := b119) (argsL := []) (rest := [(.ref b119), (.ref o0)]) rfl (lenOf own_pd_V_167 rfl) rfl (by show 2 * 0 + _ ≤ _; exact Nat.le_of_eq rfl) (hb hby own_dpn_97) (fun r138 T138 L138 X138 hQ138 => ?_)
  obtain ⟨rfl, Nq138, Kq138, f0_138⟩ := hQ138
  have N138 := Fr.app N118 Nq138
  have K138 := Keep.trans K119 Kq138 (allS (Or.inr sz_b119) all0)
  show own_End p e below P (T138.setTop (mkF m 100 #[.val (.ref o0), .val (.ref o1)] [(.ref b119), (.ref o0)]))
  have G140 := ((((((((((((((((((((((((((F_o0_anchored.ext E2).keep Kq4 (ninS ne3 nin0)).other W7 (Or.inr (slot_ne (Or.inr (hw _ (List.mem_of_getElem? (i := 101) rfl))) (Or.inr (hw _ (List.mem_of_getElem? (i := 61) rfl))) (by decide) (t := (.object "java/util/List")) (t' := (.object "java/util/Map")) (by decide) (by decide)))).ext E8).keep Kq13 (ninS ne11 nin0)).other W17 (Or.inr (slot_ne (Or.inr (hw _ (List.mem_of_getElem? (i := 101) rfl))) (Or.inr (hw _ (List.mem_of_getElem? (i := 87) rfl))) (by decide) (t := (.object "java/util/List")) (t' := (.object "java/util/List")) (by decide) (by decide)))).ext E18).keep Kq25 (ninS ne23 nin0)).other W28 (Or.inr (slot_ne (Or.inr (hw _ (List.mem_of_getElem? (i := 101) rfl))) (Or.inr (hw _ (List.mem_of_getElem? (i := 89) rfl))) (by decide) (t := (.object "java/util/List")) (t' := (.object "java/util/Map")) (by decide) (by decide)))).ext E29).keep Kq38 (ninS ne36 nin0)).other W42 (Or.inr (slot_ne (Or.inr (hw _ (List.mem_of_getElem? (i := 101) rfl))) (Or.inr (hw _ (List.mem_of_getElem? (i := 91) rfl))) (by decide) (t := (.object "java/util/List")) (t' := (.object "java/util/List")) (by decide) (by decide)))).ext E43).keep Kq54 (ninS ne52 nin0)).other W58 (Or.inr (slot_ne (Or.inr (hw _ (List.mem_of_getElem? (i := 101) rfl))) (Or.inr (hw _ (List.mem_of_getElem? (i := 93) rfl))) (by decide) (t := (.object "java/util/List")) (t' := (.object "java/util/List")) (by decide) (by decide)))).ext E59).keep Kq72 (ninS ne70 nin0)).other W76 (Or.inr (slot_ne (Or.inr (hw _ (List.mem_of_getElem? (i := 101) rfl))) (Or.inr (hw _ (List.mem_of_getElem? (i := 95) rfl))) (by decide) (t := (.object "java/util/List")) (t' := (.object "java/util/List")) (by decide) (by decide)))).ext E77).keep Kq92 (ninS ne90 nin0)).other W96 (Or.inr (slot_ne (Or.inr (hw _ (List.mem_of_getElem? (i := 101) rfl))) (Or.inr (hw _ (List.mem_of_getElem? (i := 97) rfl))) (by decide) (t := (.object "java/util/List")) (t' := (.object "java/util/List")) (by decide) (by decide)))).ext E97).keep Kq114 (ninS ne112 nin0)).other W118 (Or.inr (slot_ne (Or.inr (hw _ (List.mem_of_getElem? (i := 101) rfl))) (Or.inr (hw _ (List.mem_of_getElem? (i := 99) rfl))) (by decide) (t := (.object "java/util/List")) (t' := (.object "java/util/List")) (by decide) (by decide)))).ext E119).keep Kq138 (ninS ne136 nin0))
  have G141 := ((G137.ext E119).keep Kq138)
  obtain ⟨T142, h142, X142, e142, W142, st142⟩ := putF X138 hx hZ hown (host := "") (Or.inl (hw _ (List.mem_of_getElem? (i := 100) rfl))) Via.refl rfl G140 G141 (Or.inr ⟨(hw _ (List.mem_of_getElem? (i := 101) rfl)), rfl, hnm⟩) (hw _ (List.mem_of_getElem? (i := 27) rfl)) (ty := (.object "java/util/List")) (by decide) rfl rfl (g := (mkF m 100 #[.val (.ref o0), .val (.ref o1)] [(.ref b119), (.ref o0)])) rfl rfl (hb hby own_dpn_100)
  have N142 := Fr.snoc X142 N138 low_o0
  have K142 := Keep.wr K138 W142 (Or.inl (List.mem_of_getElem? (i := 0) rfl))
  have F142 := G140.same W142
  refine own_st (fun _ => st142 _) ?_
  show own_End p e below P (T142.setTop (mkF m 103 #[.val (.ref o0), .val (.ref o1)] []))
  refine own_st (fun _ => XS.aloadN X142.here hx rfl (hb hby own_dpn_103) rfl rfl) ?_
  show own_End p e below P (T142.setTop (mkF m 104 #[.val (.ref o0), .val (.ref o1)] [(.ref o0)]))
  obtain ⟨T143, h143, X143, e143, E143, A143, D143, -, st143⟩ := newO X142 hx hZ hown (hw _ (List.mem_of_getElem? (i := 62) rfl)) (hw _ (List.mem_of_getElem? (i := 63) rfl)) (hw _ (List.mem_of_getElem? (i := 64) rfl)) e142 (g := (mkF m 104 #[.val (.ref o0), .val (.ref o1)] [(.ref o0)])) rfl (hb hby own_dpn_104) (by decide) (by decide)
  obtain ⟨b143, g143⟩ : ∃ z, z = h142.size := ⟨_, rfl⟩
  rw [← g143] at A143 D143 st143
  have G145 := (f0_138.wr W142)
  have ne144 : b119 ≠ b143 := Nat.ne_of_lt (Nat.lt_of_lt_of_le G145.lt (Nat.le_of_eq g143.symm))
  have G147 := (((G121.ext E119).keep Kq138).wr W142)
  have ne146 : b18 ≠ b143 := Nat.ne_of_lt (Nat.lt_of_lt_of_le G147.lt (Nat.le_of_eq g143.symm))
  have G149 := (((G123.ext E119).keep Kq138).wr W142)
  have ne148 : b2 ≠ b143 := Nat.ne_of_lt (Nat.lt_of_lt_of_le G149.lt (Nat.le_of_eq g143.symm))
  have G151 := (((G125.ext E119).keep Kq138).wr W142)
  have ne150 : b29 ≠ b143 := Nat.ne_of_lt (Nat.lt_of_lt_of_le G151.lt (Nat.le_of_eq g143.symm))
  have G153 := (((G127.ext E119).keep Kq138).wr W142)
  have ne152 : b43 ≠ b143 := Nat.ne_of_lt (Nat.lt_of_lt_of_le G153.lt (Nat.le_of_eq g143.symm))
  have G155 := (((G129.ext E119).keep Kq138).wr W142)
  have ne154 : b59 ≠ b143 := Nat.ne_of_lt (Nat.lt_of_lt_of_le G155.lt (Nat.le_of_eq g143.symm))
  have G157 := (((G131.ext E119).keep Kq138).wr W142)
  have ne156 : b77 ≠ b143 := Nat.ne_of_lt (Nat.lt_of_lt_of_le G157.lt (Nat.le_of_eq g143.symm))
  have G159 := (((G133.ext E119).keep Kq138).wr W142)
  have ne158 : b8 ≠ b143 := Nat.ne_of_lt (Nat.lt_of_lt_of_le G159.lt (Nat.le_of_eq g143.symm))
  have G161 := (((G135.ext E119).keep Kq138).wr W142)
  have ne160 : b97 ≠ b143 := Nat.ne_of_lt (Nat.lt_of_lt_of_le G161.lt (Nat.le_of_eq g143.symm))
  have G163 := (G141.wr W142)
  have ne162 : o0 ≠ b143 := Nat.ne_of_lt (Nat.lt_of_lt_of_le G163.lt (Nat.le_of_eq g143.symm))
  have low_b143 : n0 ≤ b143 := Nat.le_trans (Nat.le_trans Z0 K142.1) (Nat.le_of_eq g143.symm)
  have sz_b143 : h0.size ≤ b143 := Nat.le_trans K142.1 (Nat.le_of_eq g143.symm)
  have K143 := Keep.ext K142 E143
  have F_b143_modCount : Fld Z h143 b143 "java/util/AbstractList" "modCount" "I" (.int (0 : Int32)) := D143 (Or.inl (hw _ (List.mem_of_getElem? (i := 82) rfl))) (ty := .int) (by decide)
  have F_b143_elementData : Fld Z h143 b143 "java/util/ArrayList" "elementData" "[Ljava/lang/Object;" .null := D143 (Or.inl (hw _ (List.mem_of_getElem? (i := 85) rfl))) (ty := (.array (.object "java/lang/Object"))) (by decide)
  refine own_st (fun _ => st143 _) ?_
  show own_End p e below P (T143.setTop (mkF m 107 #[.val (.ref o0), .val (.ref o1)] [(.ref b143), (.ref o0)]))
  refine own_st (fun _ => XS.dup X143.here hx rfl (hb hby own_dpn_107) rfl rfl) ?_
  show own_End p e below P (T143.setTop (mkF m 108 #[.val (.ref o0), .val (.ref o1)] [(.ref b143), (.ref b143), (.ref o0)]))
  have G165 := (((own_StaKeep G139 Kq138 (allS (own_nst A119) all0)).wr W142).ext E143)
  refine own_callI X143 hx hZ (y := (⟨"java/util/ArrayList", "<init>", "()V"⟩ : MethodName)) rfl hown (hw _ (List.mem_of_getElem? (i := 65) rfl)) (hw _ (List.mem_of_getElem? (i := 66) rfl)) (hw _ (List.mem_of_getElem? (i := 64) rfl)) (hw _ (List.mem_of_getElem? (i := 67) rfl)) (by decide) (own_mal l Z a0 hw [] b143 s_ArrayList_DEFAULTCAPACITY_EMPTY_ELEMENTDATA h143 n0 (Nat.le_trans Z0 K143.1) A143 F_b143_modCount F_b143_elementData G165 low_b143) 2 (by decide) (by decide) e143 (by decide) (by decide) (g := (mkF m 108 #[.val (.ref o0), .val (.ref o1)] [(.ref b143), (.ref b143), (.ref o0)])) rfl (by rw [hml']; rfl) (a := b143) (argsL := []) (rest := [(.ref b143), (.ref o0)]) rfl (lenOf own_pd_V_167 rfl) rfl (by show 2 * 0 + _ ≤ _; exact Nat.le_of_eq rfl) (hb hby own_dpn_108) (fun r164 T164 L164 X164 hQ164 => ?_)
  obtain ⟨rfl, Nq164, Kq164, f0_164⟩ := hQ164
  have N164 := Fr.app N142 Nq164
  have K164 := Keep.trans K143 Kq164 (allS (Or.inr sz_b143) all0)
  show own_End p e below P (T164.setTop (mkF m 111 #[.val (.ref o0), .val (.ref o1)] [(.ref b143), (.ref o0)]))
  have G166 := (((((((((((((((((((((((((((((F_o0_lacks.ext E2).keep Kq4 (ninS ne3 nin0)).other W7 (Or.inr (slot_ne (Or.inr (hw _ (List.mem_of_getElem? (i := 103) rfl))) (Or.inr (hw _ (List.mem_of_getElem? (i := 61) rfl))) (by decide) (t := (.object "java/util/List")) (t' := (.object "java/util/Map")) (by decide) (by decide)))).ext E8).keep Kq13 (ninS ne11 nin0)).other W17 (Or.inr (slot_ne (Or.inr (hw _ (List.mem_of_getElem? (i := 103) rfl))) (Or.inr (hw _ (List.mem_of_getElem? (i := 87) rfl))) (by decide) (t := (.object "java/util/List")) (t' := (.object "java/util/List")) (by decide) (by decide)))).ext E18).keep Kq25 (ninS ne23 nin0)).other W28 (Or.inr (slot_ne (Or.inr (hw _ (List.mem_of_getElem? (i := 103) rfl))) (Or.inr (hw _ (List.mem_of_getElem? (i := 89) rfl))) (by decide) (t := (.object "java/util/List")) (t' := (.object "java/util/Map")) (by decide) (by decide)))).ext E29).keep Kq38 (ninS ne36 nin0)).other W42 (Or.inr (slot_ne (Or.inr (hw _ (List.mem_of_getElem? (i := 103) rfl))) (Or.inr (hw _ (List.mem_of_getElem? (i := 91) rfl))) (by decide) (t := (.object "java/util/List")) (t' := (.object "java/util/List")) (by decide) (by decide)))).ext E43).keep Kq54 (ninS ne52 nin0)).other W58 (Or.inr (slot_ne (Or.inr (hw _ (List.mem_of_getElem? (i := 103) rfl))) (Or.inr (hw _ (List.mem_of_getElem? (i := 93) rfl))) (by decide) (t := (.object "java/util/List")) (t' := (.object "java/util/List")) (by decide) (by decide)))).ext E59).keep Kq72 (ninS ne70 nin0)).other W76 (Or.inr (slot_ne (Or.inr (hw _ (List.mem_of_getElem? (i := 103) rfl))) (Or.inr (hw _ (List.mem_of_getElem? (i := 95) rfl))) (by decide) (t := (.object "java/util/List")) (t' := (.object "java/util/List")) (by decide) (by decide)))).ext E77).keep Kq92 (ninS ne90 nin0)).other W96 (Or.inr (slot_ne (Or.inr (hw _ (List.mem_of_getElem? (i := 103) rfl))) (Or.inr (hw _ (List.mem_of_getElem? (i := 97) rfl))) (by decide) (t := (.object "java/util/List")) (t' := (.object "java/util/List")) (by decide) (by decide)))).ext E97).keep Kq114 (ninS ne112 nin0)).other W118 (Or.inr (slot_ne (Or.inr (hw _ (List.mem_of_getElem? (i := 103) rfl))) (Or.inr (hw _ (List.mem_of_getElem? (i := 99) rfl))) (by decide) (t := (.object "java/util/List")) (t' := (.object "java/util/List")) (by decide) (by decide)))).ext E119).keep Kq138 (ninS ne136 nin0)).other W142 (Or.inr (slot_ne (Or.inr (hw _ (List.mem_of_getElem? (i := 103) rfl))) (Or.inr (hw _ (List.mem_of_getElem? (i := 101) rfl))) (by decide) (t := (.object "java/util/List")) (t' := (.object "java/util/List")) (by decide) (by decide)))).ext E143).keep Kq164 (ninS ne162 nin0))
  have G167 := ((G163.ext E143).keep Kq164)
  obtain ⟨T168, h168, X168, e168, W168, st168⟩ := putF X164 hx hZ hown (host := "") (Or.inl (hw _ (List.mem_of_getElem? (i := 102) rfl))) Via.refl rfl G166 G167 (Or.inr ⟨(hw _ (List.mem_of_getElem? (i := 103) rfl)), rfl, hnm⟩) (hw _ (List.mem_of_getElem? (i := 27) rfl)) (ty := (.object "java/util/List")) (by decide) rfl rfl (g := (mkF m 111 #[.val (.ref o0), .val (.ref o1)] [(.ref b143), (.ref o0)])) rfl rfl (hb hby own_dpn_111)
  have N168 := Fr.snoc X168 N164 low_o0
  have K168 := Keep.wr K164 W168 (Or.inl (List.mem_of_getElem? (i := 0) rfl))
  have F168 := G166.same W168
  refine own_st (fun _ => st168 _) ?_
  show own_End p e below P (T168.setTop (mkF m 114 #[.val (.ref o0), .val (.ref o1)] []))
  refine own_st (fun _ => XS.aloadN X168.here hx rfl (hb hby own_dpn_114) rfl rfl) ?_
  show own_End p e below P (T168.setTop (mkF m 115 #[.val (.ref o0), .val (.ref o1)] [(.ref o0)]))
  obtain ⟨T169, h169, X169, e169, E169, A169, D169, -, st169⟩ := newO X168 hx hZ hown (hw _ (List.mem_of_getElem? (i := 62) rfl)) (hw _ (List.mem_of_getElem? (i := 63) rfl)) (hw _ (List.mem_of_getElem? (i := 64) rfl)) e168 (g := (mkF m 115 #[.val (.ref o0), .val (.ref o1)] [(.ref o0)])) rfl (hb hby own_dpn_115) (by decide) (by decide)
  obtain ⟨b169, g169⟩ : ∃ z, z = h168.size := ⟨_, rfl⟩
  rw [← g169] at A169 D169 st169
  have G171 := (((G145.ext E143).keep Kq164).wr W168)
  have ne170 : b119 ≠ b169 := Nat.ne_of_lt (Nat.lt_of_lt_of_le G171.lt (Nat.le_of_eq g169.symm))
  have G173 := (f0_164.wr W168)
  have ne172 : b143 ≠ b169 := Nat.ne_of_lt (Nat.lt_of_lt_of_le G173.lt (Nat.le_of_eq g169.symm))
  have G175 := (((G147.ext E143).keep Kq164).wr W168)
  have ne174 : b18 ≠ b169 := Nat.ne_of_lt (Nat.lt_of_lt_of_le G175.lt (Nat.le_of_eq g169.symm))
  have G177 := (((G149.ext E143).keep Kq164).wr W168)
  have ne176 : b2 ≠ b169 := Nat.ne_of_lt (Nat.lt_of_lt_of_le G177.lt (Nat.le_of_eq g169.symm))
  have G179 := (((G151.ext E143).keep Kq164).wr W168)
  have ne178 : b29 ≠ b169 := Nat.ne_of_lt (Nat.lt_of_lt_of_le G179.lt (Nat.le_of_eq g169.symm))
  have G181 := (((G153.ext E143).keep Kq164).wr W168)
  have ne180 : b43 ≠ b169 := Nat.ne_of_lt (Nat.lt_of_lt_of_le G181.lt (Nat.le_of_eq g169.symm))
  have G183 := (((G155.ext E143).keep Kq164).wr W168)
  have ne182 : b59 ≠ b169 := Nat.ne_of_lt (Nat.lt_of_lt_of_le G183.lt (Nat.le_of_eq g169.symm))
  have G185 := (((G157.ext E143).keep Kq164).wr W168)
  have ne184 : b77 ≠ b169 := Nat.ne_of_lt (Nat.lt_of_lt_of_le G185.lt (Nat.le_of_eq g169.symm))
  have G187 := (((G159.ext E143).keep Kq164).wr W168)
  have ne186 : b8 ≠ b169 := Nat.ne_of_lt (Nat.lt_of_lt_of_le G187.lt (Nat.le_of_eq g169.symm))
  have G189 := (((G161.ext E143).keep Kq164).wr W168)
  have ne188 : b97 ≠ b169 := Nat.ne_of_lt (Nat.lt_of_lt_of_le G189.lt (Nat.le_of_eq g169.symm))
  have G191 := (G167.wr W168)
  have ne190 : o0 ≠ b169 := Nat.ne_of_lt (Nat.lt_of_lt_of_le G191.lt (Nat.le_of_eq g169.symm))
  have low_b169 : n0 ≤ b169 := Nat.le_trans (Nat.le_trans Z0 K168.1) (Nat.le_of_eq g169.symm)
  have sz_b169 : h0.size ≤ b169 := Nat.le_trans K168.1 (Nat.le_of_eq g169.symm)
  have K169 := Keep.ext K168 E169
  have F_b169_modCount : Fld Z h169 b169 "java/util/AbstractList" "modCount" "I" (.int (0 : Int32)) := D169 (Or.inl (hw _ (List.mem_of_getElem? (i := 82) rfl))) (ty := .int) (by decide)
  have F_b169_elementData : Fld Z h169 b169 "java/util/ArrayList" "elementData" "[Ljava/lang/Object;" .null := D169 (Or.inl (hw _ (List.mem_of_getElem? (i := 85) rfl))) (ty := (.array (.object "java/lang/Object"))) (by decide)
  refine own_st (fun _ => st169 _) ?_
  show own_End p e below P (T169.setTop (mkF m 118 #[.val (.ref o0), .val (.ref o1)] [(.ref b169), (.ref o0)]))
  refine own_st (fun _ => XS.dup X169.here hx rfl (hb hby own_dpn_118) rfl rfl) ?_
  show own_End p e below P (T169.setTop (mkF m 119 #[.val (.ref o0), .val (.ref o1)] [(.ref b169), (.ref b169), (.ref o0)]))
  have G193 := (((own_StaKeep G165 Kq164 (allS (own_nst A143) all0)).wr W168).ext E169)
  refine own_callI X169 hx hZ (y := (⟨"java/util/ArrayList", "<init>", "()V"⟩ : MethodName)) rfl hown (hw _ (List.mem_of_getElem? (i := 65) rfl)) (hw _ (List.mem_of_getElem? (i := 66) rfl)) (hw _ (List.mem_of_getElem? (i := 64) rfl)) (hw _ (List.mem_of_getElem? (i := 67) rfl)) (by decide) (own_mal l Z a0 hw [] b169 s_ArrayList_DEFAULTCAPACITY_EMPTY_ELEMENTDATA h169 n0 (Nat.le_trans Z0 K169.1) A169 F_b169_modCount F_b169_elementData G193 low_b169) 2 (by decide) (by decide) e169 (by decide) (by decide) (g := (mkF m 119 #[.val (.ref o0), .val (.ref o1)] [(.ref b169), (.ref b169), (.ref o0)])) rfl (by rw [hml']; rfl) (a := b169) (argsL := []) (rest := [(.ref b169), (.ref o0)]) rfl (lenOf own_pd_V_167 rfl) rfl (by show 2 * 0 + _ ≤ _; exact Nat.le_of_eq rfl) (hb hby own_dpn_119) (fun r192 T192 L192 X192 hQ192 => ?_)
  obtain ⟨rfl, Nq192, Kq192, f0_192⟩ := hQ192
  have N192 := Fr.app N168 Nq192
  have K192 := Keep.trans K169 Kq192 (allS (Or.inr sz_b169) all0)
  show own_End p e below P (T192.setTop (mkF m 122 #[.val (.ref o0), .val (.ref o1)] [(.ref b169), (.ref o0)]))
  have G194 := ((((((((((((((((((((((((((((((((F_o0_tallies.ext E2).keep Kq4 (ninS ne3 nin0)).other W7 (Or.inr (slot_ne (Or.inr (hw _ (List.mem_of_getElem? (i := 105) rfl))) (Or.inr (hw _ (List.mem_of_getElem? (i := 61) rfl))) (by decide) (t := (.object "java/util/List")) (t' := (.object "java/util/Map")) (by decide) (by decide)))).ext E8).keep Kq13 (ninS ne11 nin0)).other W17 (Or.inr (slot_ne (Or.inr (hw _ (List.mem_of_getElem? (i := 105) rfl))) (Or.inr (hw _ (List.mem_of_getElem? (i := 87) rfl))) (by decide) (t := (.object "java/util/List")) (t' := (.object "java/util/List")) (by decide) (by decide)))).ext E18).keep Kq25 (ninS ne23 nin0)).other W28 (Or.inr (slot_ne (Or.inr (hw _ (List.mem_of_getElem? (i := 105) rfl))) (Or.inr (hw _ (List.mem_of_getElem? (i := 89) rfl))) (by decide) (t := (.object "java/util/List")) (t' := (.object "java/util/Map")) (by decide) (by decide)))).ext E29).keep Kq38 (ninS ne36 nin0)).other W42 (Or.inr (slot_ne (Or.inr (hw _ (List.mem_of_getElem? (i := 105) rfl))) (Or.inr (hw _ (List.mem_of_getElem? (i := 91) rfl))) (by decide) (t := (.object "java/util/List")) (t' := (.object "java/util/List")) (by decide) (by decide)))).ext E43).keep Kq54 (ninS ne52 nin0)).other W58 (Or.inr (slot_ne (Or.inr (hw _ (List.mem_of_getElem? (i := 105) rfl))) (Or.inr (hw _ (List.mem_of_getElem? (i := 93) rfl))) (by decide) (t := (.object "java/util/List")) (t' := (.object "java/util/List")) (by decide) (by decide)))).ext E59).keep Kq72 (ninS ne70 nin0)).other W76 (Or.inr (slot_ne (Or.inr (hw _ (List.mem_of_getElem? (i := 105) rfl))) (Or.inr (hw _ (List.mem_of_getElem? (i := 95) rfl))) (by decide) (t := (.object "java/util/List")) (t' := (.object "java/util/List")) (by decide) (by decide)))).ext E77).keep Kq92 (ninS ne90 nin0)).other W96 (Or.inr (slot_ne (Or.inr (hw _ (List.mem_of_getElem? (i := 105) rfl))) (Or.inr (hw _ (List.mem_of_getElem? (i := 97) rfl))) (by decide) (t := (.object "java/util/List")) (t' := (.object "java/util/List")) (by decide) (by decide)))).ext E97).keep Kq114 (ninS ne112 nin0)).other W118 (Or.inr (slot_ne (Or.inr (hw _ (List.mem_of_getElem? (i := 105) rfl))) (Or.inr (hw _ (List.mem_of_getElem? (i := 99) rfl))) (by decide) (t := (.object "java/util/List")) (t' := (.object "java/util/List")) (by decide) (by decide)))).ext E119).keep Kq138 (ninS ne136 nin0)).other W142 (Or.inr (slot_ne (Or.inr (hw _ (List.mem_of_getElem? (i := 105) rfl))) (Or.inr (hw _ (List.mem_of_getElem? (i := 101) rfl))) (by decide) (t := (.object "java/util/List")) (t' := (.object "java/util/List")) (by decide) (by decide)))).ext E143).keep Kq164 (ninS ne162 nin0)).other W168 (Or.inr (slot_ne (Or.inr (hw _ (List.mem_of_getElem? (i := 105) rfl))) (Or.inr (hw _ (List.mem_of_getElem? (i := 103) rfl))) (by decide) (t := (.object "java/util/List")) (t' := (.object "java/util/List")) (by decide) (by decide)))).ext E169).keep Kq192 (ninS ne190 nin0))
  have G195 := ((G191.ext E169).keep Kq192)
  obtain ⟨T196, h196, X196, e196, W196, st196⟩ := putF X192 hx hZ hown (host := "") (Or.inl (hw _ (List.mem_of_getElem? (i := 104) rfl))) Via.refl rfl G194 G195 (Or.inr ⟨(hw _ (List.mem_of_getElem? (i := 105) rfl)), rfl, hnm⟩) (hw _ (List.mem_of_getElem? (i := 27) rfl)) (ty := (.object "java/util/List")) (by decide) rfl rfl (g := (mkF m 122 #[.val (.ref o0), .val (.ref o1)] [(.ref b169), (.ref o0)])) rfl rfl (hb hby own_dpn_122)
  have N196 := Fr.snoc X196 N192 low_o0
  have K196 := Keep.wr K192 W196 (Or.inl (List.mem_of_getElem? (i := 0) rfl))
  have F196 := G194.same W196
  refine own_st (fun _ => st196 _) ?_
  show own_End p e below P (T196.setTop (mkF m 125 #[.val (.ref o0), .val (.ref o1)] []))
  refine own_st (fun _ => XS.aloadN X196.here hx rfl (hb hby own_dpn_125) rfl rfl) ?_
  show own_End p e below P (T196.setTop (mkF m 126 #[.val (.ref o0), .val (.ref o1)] [(.ref o0)]))
  obtain ⟨T197, h197, X197, e197, E197, A197, D197, -, st197⟩ := newO X196 hx hZ hown (hw _ (List.mem_of_getElem? (i := 62) rfl)) (hw _ (List.mem_of_getElem? (i := 63) rfl)) (hw _ (List.mem_of_getElem? (i := 64) rfl)) e196 (g := (mkF m 126 #[.val (.ref o0), .val (.ref o1)] [(.ref o0)])) rfl (hb hby own_dpn_126) (by decide) (by decide)
  obtain ⟨b197, g197⟩ : ∃ z, z = h196.size := ⟨_, rfl⟩
  rw [← g197] at A197 D197 st197
  have G199 := (((G171.ext E169).keep Kq192).wr W196)
  have ne198 : b119 ≠ b197 := Nat.ne_of_lt (Nat.lt_of_lt_of_le G199.lt (Nat.le_of_eq g197.symm))
  have G201 := (((G173.ext E169).keep Kq192).wr W196)
  have ne200 : b143 ≠ b197 := Nat.ne_of_lt (Nat.lt_of_lt_of_le G201.lt (Nat.le_of_eq g197.symm))
  have G203 := (f0_192.wr W196)
  have ne202 : b169 ≠ b197 := Nat.ne_of_lt (Nat.lt_of_lt_of_le G203.lt (Nat.le_of_eq g197.symm))
  have G205 := (((G175.ext E169).keep Kq192).wr W196)
  have ne204 : b18 ≠ b197 := Nat.ne_of_lt (Nat.lt_of_lt_of_le G205.lt (Nat.le_of_eq g197.symm))
  have G207 := (((G177.ext E169).keep Kq192).wr W196)
  have ne206 : b2 ≠ b197 := Nat.ne_of_lt (Nat.lt_of_lt_of_le G207.lt (Nat.le_of_eq g197.symm))
  have G209 := (((G179.ext E169).keep Kq192).wr W196)
  have ne208 : b29 ≠ b197 := Nat.ne_of_lt (Nat.lt_of_lt_of_le G209.lt (Nat.le_of_eq g197.symm))
  have G211 := (((G181.ext E169).keep Kq192).wr W196)
  have ne210 : b43 ≠ b197 := Nat.ne_of_lt (Nat.lt_of_lt_of_le G211.lt (Nat.le_of_eq g197.symm))
  have G213 := (((G183.ext E169).keep Kq192).wr W196)
  have ne212 : b59 ≠ b197 := Nat.ne_of_lt (Nat.lt_of_lt_of_le G213.lt (Nat.le_of_eq g197.symm))
  have G215 := (((G185.ext E169).keep Kq192).wr W196)
  have ne214 : b77 ≠ b197 := Nat.ne_of_lt (Nat.lt_of_lt_of_le G215.lt (Nat.le_of_eq g197.symm))
  have G217 := (((G187.ext E169).keep Kq192).wr W196)
  have ne216 : b8 ≠ b197 := Nat.ne_of_lt (Nat.lt_of_lt_of_le G217.lt (Nat.le_of_eq g197.symm))
  have G219 := (((G189.ext E169).keep Kq192).wr W196)
  have ne218 : b97 ≠ b197 := Nat.ne_of_lt (Nat.lt_of_lt_of_le G219.lt (Nat.le_of_eq g197.symm))
  have G221 := (G195.wr W196)
  have ne220 : o0 ≠ b197 := Nat.ne_of_lt (Nat.lt_of_lt_of_le G221.lt (Nat.le_of_eq g197.symm))
  have low_b197 : n0 ≤ b197 := Nat.le_trans (Nat.le_trans Z0 K196.1) (Nat.le_of_eq g197.symm)
  have sz_b197 : h0.size ≤ b197 := Nat.le_trans K196.1 (Nat.le_of_eq g197.symm)
  have K197 := Keep.ext K196 E197
  have F_b197_modCount : Fld Z h197 b197 "java/util/AbstractList" "modCount" "I" (.int (0 : Int32)) := D197 (Or.inl (hw _ (List.mem_of_getElem? (i := 82) rfl))) (ty := .int) (by decide)
  have F_b197_elementData : Fld Z h197 b197 "java/util/ArrayList" "elementData" "[Ljava/lang/Object;" .null := D197 (Or.inl (hw _ (List.mem_of_getElem? (i := 85) rfl))) (ty := (.array (.object "java/lang/Object"))) (by decide)
  refine own_st (fun _ => st197 _) ?_
  show own_End p e below P (T197.setTop (mkF m 129 #[.val (.ref o0), .val (.ref o1)] [(.ref b197), (.ref o0)]))
  refine own_st (fun _ => XS.dup X197.here hx rfl (hb hby own_dpn_129) rfl rfl) ?_
  show own_End p e below P (T197.setTop (mkF m 130 #[.val (.ref o0), .val (.ref o1)] [(.ref b197), (.ref b197), (.ref o0)]))
  have G223 := (((own_StaKeep G193 Kq192 (allS (own_nst A169) all0)).wr W196).ext E197)
  refine own_callI X197 hx hZ (y := (⟨"java/util/ArrayList", "<init>", "()V"⟩ : MethodName)) rfl hown (hw _ (List.mem_of_getElem? (i := 65) rfl)) (hw _ (List.mem_of_getElem? (i := 66) rfl)) (hw _ (List.mem_of_getElem? (i := 64) rfl)) (hw _ (List.mem_of_getElem? (i := 67) rfl)) (by decide) (own_mal l Z a0 hw [] b197 s_ArrayList_DEFAULTCAPACITY_EMPTY_ELEMENTDATA h197 n0 (Nat.le_trans Z0 K197.1) A197 F_b197_modCount F_b197_elementData G223 low_b197) 2 (by decide) (by decide) e197 (by decide) (by decide) (g := (mkF m 130 #[.val (.ref o0), .val (.ref o1)] [(.ref b197), (.ref b197), (.ref o0)])) rfl (by rw [hml']; rfl) (a := b197) (argsL := []) (rest := [(.ref b197), (.ref o0)]) rfl (lenOf own_pd_V_167 rfl) rfl (by show 2 * 0 + _ ≤ _; exact Nat.le_of_eq rfl) (hb hby own_dpn_130) (fun r222 T222 L222 X222 hQ222 => ?_)
  obtain ⟨rfl, Nq222, Kq222, f0_222⟩ := hQ222
  have N222 := Fr.app N196 Nq222
  have K222 := Keep.trans K197 Kq222 (allS (Or.inr sz_b197) all0)
  show own_End p e below P (T222.setTop (mkF m 133 #[.val (.ref o0), .val (.ref o1)] [(.ref b197), (.ref o0)]))
  have G224 := (((((((((((((((((((((((((((((((((((F_o0_tallyItems.ext E2).keep Kq4 (ninS ne3 nin0)).other W7 (Or.inr (slot_ne (Or.inr (hw _ (List.mem_of_getElem? (i := 107) rfl))) (Or.inr (hw _ (List.mem_of_getElem? (i := 61) rfl))) (by decide) (t := (.object "java/util/List")) (t' := (.object "java/util/Map")) (by decide) (by decide)))).ext E8).keep Kq13 (ninS ne11 nin0)).other W17 (Or.inr (slot_ne (Or.inr (hw _ (List.mem_of_getElem? (i := 107) rfl))) (Or.inr (hw _ (List.mem_of_getElem? (i := 87) rfl))) (by decide) (t := (.object "java/util/List")) (t' := (.object "java/util/List")) (by decide) (by decide)))).ext E18).keep Kq25 (ninS ne23 nin0)).other W28 (Or.inr (slot_ne (Or.inr (hw _ (List.mem_of_getElem? (i := 107) rfl))) (Or.inr (hw _ (List.mem_of_getElem? (i := 89) rfl))) (by decide) (t := (.object "java/util/List")) (t' := (.object "java/util/Map")) (by decide) (by decide)))).ext E29).keep Kq38 (ninS ne36 nin0)).other W42 (Or.inr (slot_ne (Or.inr (hw _ (List.mem_of_getElem? (i := 107) rfl))) (Or.inr (hw _ (List.mem_of_getElem? (i := 91) rfl))) (by decide) (t := (.object "java/util/List")) (t' := (.object "java/util/List")) (by decide) (by decide)))).ext E43).keep Kq54 (ninS ne52 nin0)).other W58 (Or.inr (slot_ne (Or.inr (hw _ (List.mem_of_getElem? (i := 107) rfl))) (Or.inr (hw _ (List.mem_of_getElem? (i := 93) rfl))) (by decide) (t := (.object "java/util/List")) (t' := (.object "java/util/List")) (by decide) (by decide)))).ext E59).keep Kq72 (ninS ne70 nin0)).other W76 (Or.inr (slot_ne (Or.inr (hw _ (List.mem_of_getElem? (i := 107) rfl))) (Or.inr (hw _ (List.mem_of_getElem? (i := 95) rfl))) (by decide) (t := (.object "java/util/List")) (t' := (.object "java/util/List")) (by decide) (by decide)))).ext E77).keep Kq92 (ninS ne90 nin0)).other W96 (Or.inr (slot_ne (Or.inr (hw _ (List.mem_of_getElem? (i := 107) rfl))) (Or.inr (hw _ (List.mem_of_getElem? (i := 97) rfl))) (by decide) (t := (.object "java/util/List")) (t' := (.object "java/util/List")) (by decide) (by decide)))).ext E97).keep Kq114 (ninS ne112 nin0)).other W118 (Or.inr (slot_ne (Or.inr (hw _ (List.mem_of_getElem? (i := 107) rfl))) (Or.inr (hw _ (List.mem_of_getElem? (i := 99) rfl))) (by decide) (t := (.object "java/util/List")) (t' := (.object "java/util/List")) (by decide) (by decide)))).ext E119).keep Kq138 (ninS ne136 nin0)).other W142 (Or.inr (slot_ne (Or.inr (hw _ (List.mem_of_getElem? (i := 107) rfl))) (Or.inr (hw _ (List.mem_of_getElem? (i := 101) rfl))) (by decide) (t := (.object "java/util/List")) (t' := (.object "java/util/List")) (by decide) (by decide)))).ext E143).keep Kq164 (ninS ne162 nin0)).other W168 (Or.inr (slot_ne (Or.inr (hw _ (List.mem_of_getElem? (i := 107) rfl))) (Or.inr (hw _ (List.mem_of_getElem? (i := 103) rfl))) (by decide) (t := (.object "java/util/List")) (t' := (.object "java/util/List")) (by decide) (by decide)))).ext E169).keep Kq192 (ninS ne190 nin0)).other W196 (Or.inr (slot_ne (Or.inr (hw _ (List.mem_of_getElem? (i := 107) rfl))) (Or.inr (hw _ (List.mem_of_getElem? (i := 105) rfl))) (by decide) (t := (.object "java/util/List")) (t' := (.object "java/util/List")) (by decide) (by decide)))).ext E197).keep Kq222 (ninS ne220 nin0))
  have G225 := ((G221.ext E197).keep Kq222)
  obtain ⟨T226, h226, X226, e226, W226, st226⟩ := putF X222 hx hZ hown (host := "") (Or.inl (hw _ (List.mem_of_getElem? (i := 106) rfl))) Via.refl rfl G224 G225 (Or.inr ⟨(hw _ (List.mem_of_getElem? (i := 107) rfl)), rfl, hnm⟩) (hw _ (List.mem_of_getElem? (i := 27) rfl)) (ty := (.object "java/util/List")) (by decide) rfl rfl (g := (mkF m 133 #[.val (.ref o0), .val (.ref o1)] [(.ref b197), (.ref o0)])) rfl rfl (hb hby own_dpn_133)
  have N226 := Fr.snoc X226 N222 low_o0
  have K226 := Keep.wr K222 W226 (Or.inl (List.mem_of_getElem? (i := 0) rfl))
  have F226 := G224.same W226
  refine own_st (fun _ => st226 _) ?_
  show own_End p e below P (T226.setTop (mkF m 136 #[.val (.ref o0), .val (.ref o1)] []))
  refine own_st (fun _ => XS.aloadN X226.here hx rfl (hb hby own_dpn_136) rfl rfl) ?_
  show own_End p e below P (T226.setTop (mkF m 137 #[.val (.ref o0), .val (.ref o1)] [(.ref o0)]))
  refine own_st (fun _ => XS.iconst X226.here hx rfl (hb hby own_dpn_137)) ?_
  show own_End p e below P (T226.setTop (mkF m 138 #[.val (.ref o0), .val (.ref o1)] [(.int (-1 : Int32)), (.ref o0)]))
  have G227 := ((((((((((((((((((((((((((((((((((((F_o0_requiredIndex.ext E2).keep Kq4 (ninS ne3 nin0)).other W7 (Or.inr (slot_ne (Or.inl (hw _ (List.mem_of_getElem? (i := 109) rfl))) (Or.inr (hw _ (List.mem_of_getElem? (i := 61) rfl))) (by decide) (t := .int) (t' := (.object "java/util/Map")) (by decide) (by decide)))).ext E8).keep Kq13 (ninS ne11 nin0)).other W17 (Or.inr (slot_ne (Or.inl (hw _ (List.mem_of_getElem? (i := 109) rfl))) (Or.inr (hw _ (List.mem_of_getElem? (i := 87) rfl))) (by decide) (t := .int) (t' := (.object "java/util/List")) (by decide) (by decide)))).ext E18).keep Kq25 (ninS ne23 nin0)).other W28 (Or.inr (slot_ne (Or.inl (hw _ (List.mem_of_getElem? (i := 109) rfl))) (Or.inr (hw _ (List.mem_of_getElem? (i := 89) rfl))) (by decide) (t := .int) (t' := (.object "java/util/Map")) (by decide) (by decide)))).ext E29).keep Kq38 (ninS ne36 nin0)).other W42 (Or.inr (slot_ne (Or.inl (hw _ (List.mem_of_getElem? (i := 109) rfl))) (Or.inr (hw _ (List.mem_of_getElem? (i := 91) rfl))) (by decide) (t := .int) (t' := (.object "java/util/List")) (by decide) (by decide)))).ext E43).keep Kq54 (ninS ne52 nin0)).other W58 (Or.inr (slot_ne (Or.inl (hw _ (List.mem_of_getElem? (i := 109) rfl))) (Or.inr (hw _ (List.mem_of_getElem? (i := 93) rfl))) (by decide) (t := .int) (t' := (.object "java/util/List")) (by decide) (by decide)))).ext E59).keep Kq72 (ninS ne70 nin0)).other W76 (Or.inr (slot_ne (Or.inl (hw _ (List.mem_of_getElem? (i := 109) rfl))) (Or.inr (hw _ (List.mem_of_getElem? (i := 95) rfl))) (by decide) (t := .int) (t' := (.object "java/util/List")) (by decide) (by decide)))).ext E77).keep Kq92 (ninS ne90 nin0)).other W96 (Or.inr (slot_ne (Or.inl (hw _ (List.mem_of_getElem? (i := 109) rfl))) (Or.inr (hw _ (List.mem_of_getElem? (i := 97) rfl))) (by decide) (t := .int) (t' := (.object "java/util/List")) (by decide) (by decide)))).ext E97).keep Kq114 (ninS ne112 nin0)).other W118 (Or.inr (slot_ne (Or.inl (hw _ (List.mem_of_getElem? (i := 109) rfl))) (Or.inr (hw _ (List.mem_of_getElem? (i := 99) rfl))) (by decide) (t := .int) (t' := (.object "java/util/List")) (by decide) (by decide)))).ext E119).keep Kq138 (ninS ne136 nin0)).other W142 (Or.inr (slot_ne (Or.inl (hw _ (List.mem_of_getElem? (i := 109) rfl))) (Or.inr (hw _ (List.mem_of_getElem? (i := 101) rfl))) (by decide) (t := .int) (t' := (.object "java/util/List")) (by decide) (by decide)))).ext E143).keep Kq164 (ninS ne162 nin0)).other W168 (Or.inr (slot_ne (Or.inl (hw _ (List.mem_of_getElem? (i := 109) rfl))) (Or.inr (hw _ (List.mem_of_getElem? (i := 103) rfl))) (by decide) (t := .int) (t' := (.object "java/util/List")) (by decide) (by decide)))).ext E169).keep Kq192 (ninS ne190 nin0)).other W196 (Or.inr (slot_ne (Or.inl (hw _ (List.mem_of_getElem? (i := 109) rfl))) (Or.inr (hw _ (List.mem_of_getElem? (i := 105) rfl))) (by decide) (t := .int) (t' := (.object "java/util/List")) (by decide) (by decide)))).ext E197).keep Kq222 (ninS ne220 nin0)).other W226 (Or.inr (slot_ne (Or.inl (hw _ (List.mem_of_getElem? (i := 109) rfl))) (Or.inr (hw _ (List.mem_of_getElem? (i := 107) rfl))) (by decide) (t := .int) (t' := (.object "java/util/List")) (by decide) (by decide))))
  have G228 := (G225.wr W226)
  obtain ⟨T229, h229, X229, e229, W229, st229⟩ := putF X226 hx hZ hown (host := "") (Or.inl (hw _ (List.mem_of_getElem? (i := 108) rfl))) Via.refl e226 G227 G228 (Or.inl (hw _ (List.mem_of_getElem? (i := 109) rfl))) (hw _ (List.mem_of_getElem? (i := 27) rfl)) (ty := .int) (by decide) rfl rfl (g := (mkF m 138 #[.val (.ref o0), .val (.ref o1)] [(.int (-1 : Int32)), (.ref o0)])) rfl rfl (hb hby own_dpn_138)
  have N229 := Fr.snoc X229 N226 low_o0
  have K229 := Keep.wr K226 W229 (Or.inl (List.mem_of_getElem? (i := 0) rfl))
  have F229 := G227.same W229
  refine own_st (fun _ => st229 _) ?_
  show own_End p e below P (T229.setTop (mkF m 141 #[.val (.ref o0), .val (.ref o1)] []))
  refine own_st (fun _ => XS.aloadN X229.here hx rfl (hb hby own_dpn_141) rfl rfl) ?_
  show own_End p e below P (T229.setTop (mkF m 142 #[.val (.ref o0), .val (.ref o1)] [(.ref o0)]))
  refine own_st (fun _ => XS.aloadN X229.here hx rfl (hb hby own_dpn_142) rfl rfl) ?_
  show own_End p e below P (T229.setTop (mkF m 143 #[.val (.ref o0), .val (.ref o1)] [(.ref o1), (.ref o0)]))
  have G230 := (((((((((((((((((((((((((((((((((((((F_o0_name.ext E2).keep Kq4 (ninS ne3 nin0)).other W7 (Or.inr (slot_ne (Or.inr (hw _ (List.mem_of_getElem? (i := 111) rfl))) (Or.inr (hw _ (List.mem_of_getElem? (i := 61) rfl))) (by decide) (t := (.object "java/lang/String")) (t' := (.object "java/util/Map")) (by decide) (by decide)))).ext E8).keep Kq13 (ninS ne11 nin0)).other W17 (Or.inr (slot_ne (Or.inr (hw _ (List.mem_of_getElem? (i := 111) rfl))) (Or.inr (hw _ (List.mem_of_getElem? (i := 87) rfl))) (by decide) (t := (.object "java/lang/String")) (t' := (.object "java/util/List")) (by decide) (by decide)))).ext E18).keep Kq25 (ninS ne23 nin0)).other W28 (Or.inr (slot_ne (Or.inr (hw _ (List.mem_of_getElem? (i := 111) rfl))) (Or.inr (hw _ (List.mem_of_getElem? (i := 89) rfl))) (by decide) (t := (.object "java/lang/String")) (t' := (.object "java/util/Map")) (by decide) (by decide)))).ext E29).keep Kq38 (ninS ne36 nin0)).other W42 (Or.inr (slot_ne (Or.inr (hw _ (List.mem_of_getElem? (i := 111) rfl))) (Or.inr (hw _ (List.mem_of_getElem? (i := 91) rfl))) (by decide) (t := (.object "java/lang/String")) (t' := (.object "java/util/List")) (by decide) (by decide)))).ext E43).keep Kq54 (ninS ne52 nin0)).other W58 (Or.inr (slot_ne (Or.inr (hw _ (List.mem_of_getElem? (i := 111) rfl))) (Or.inr (hw _ (List.mem_of_getElem? (i := 93) rfl))) (by decide) (t := (.object "java/lang/String")) (t' := (.object "java/util/List")) (by decide) (by decide)))).ext E59).keep Kq72 (ninS ne70 nin0)).other W76 (Or.inr (slot_ne (Or.inr (hw _ (List.mem_of_getElem? (i := 111) rfl))) (Or.inr (hw _ (List.mem_of_getElem? (i := 95) rfl))) (by decide) (t := (.object "java/lang/String")) (t' := (.object "java/util/List")) (by decide) (by decide)))).ext E77).keep Kq92 (ninS ne90 nin0)).other W96 (Or.inr (slot_ne (Or.inr (hw _ (List.mem_of_getElem? (i := 111) rfl))) (Or.inr (hw _ (List.mem_of_getElem? (i := 97) rfl))) (by decide) (t := (.object "java/lang/String")) (t' := (.object "java/util/List")) (by decide) (by decide)))).ext E97).keep Kq114 (ninS ne112 nin0)).other W118 (Or.inr (slot_ne (Or.inr (hw _ (List.mem_of_getElem? (i := 111) rfl))) (Or.inr (hw _ (List.mem_of_getElem? (i := 99) rfl))) (by decide) (t := (.object "java/lang/String")) (t' := (.object "java/util/List")) (by decide) (by decide)))).ext E119).keep Kq138 (ninS ne136 nin0)).other W142 (Or.inr (slot_ne (Or.inr (hw _ (List.mem_of_getElem? (i := 111) rfl))) (Or.inr (hw _ (List.mem_of_getElem? (i := 101) rfl))) (by decide) (t := (.object "java/lang/String")) (t' := (.object "java/util/List")) (by decide) (by decide)))).ext E143).keep Kq164 (ninS ne162 nin0)).other W168 (Or.inr (slot_ne (Or.inr (hw _ (List.mem_of_getElem? (i := 111) rfl))) (Or.inr (hw _ (List.mem_of_getElem? (i := 103) rfl))) (by decide) (t := (.object "java/lang/String")) (t' := (.object "java/util/List")) (by decide) (by decide)))).ext E169).keep Kq192 (ninS ne190 nin0)).other W196 (Or.inr (slot_ne (Or.inr (hw _ (List.mem_of_getElem? (i := 111) rfl))) (Or.inr (hw _ (List.mem_of_getElem? (i := 105) rfl))) (by decide) (t := (.object "java/lang/String")) (t' := (.object "java/util/List")) (by decide) (by decide)))).ext E197).keep Kq222 (ninS ne220 nin0)).other W226 (Or.inr (slot_ne (Or.inr (hw _ (List.mem_of_getElem? (i := 111) rfl))) (Or.inr (hw _ (List.mem_of_getElem? (i := 107) rfl))) (by decide) (t := (.object "java/lang/String")) (t' := (.object "java/util/List")) (by decide) (by decide)))).other W229 (Or.inr (slot_ne (Or.inr (hw _ (List.mem_of_getElem? (i := 111) rfl))) (Or.inl (hw _ (List.mem_of_getElem? (i := 109) rfl))) (by decide) (t := (.object "java/lang/String")) (t' := .int) (by decide) (by decide))))
  have G231 := (G228.wr W229)
  obtain ⟨T232, h232, X232, e232, W232, st232⟩ := putF X229 hx hZ hown (host := "") (Or.inl (hw _ (List.mem_of_getElem? (i := 110) rfl))) Via.refl e229 G230 G231 (Or.inr ⟨(hw _ (List.mem_of_getElem? (i := 111) rfl)), rfl, hnm⟩) (hw _ (List.mem_of_getElem? (i := 27) rfl)) (ty := (.object "java/lang/String")) (by decide) rfl rfl (g := (mkF m 143 #[.val (.ref o0), .val (.ref o1)] [(.ref o1), (.ref o0)])) rfl rfl (hb hby own_dpn_143)
  have N232 := Fr.snoc X232 N229 low_o0
  have K232 := Keep.wr K229 W232 (Or.inl (List.mem_of_getElem? (i := 0) rfl))
  have F232 := G230.same W232
  refine own_st (fun _ => st232 _) ?_
  show own_End p e below P (T232.setTop (mkF m 146 #[.val (.ref o0), .val (.ref o1)] []))
  have G233 := (G231.wr W232)
  have G234 := (((((G207.ext E197).keep Kq222).wr W226).wr W229).wr W232)
  have G235 := (((((G217.ext E197).keep Kq222).wr W226).wr W229).wr W232)
  have G236 := (((((G205.ext E197).keep Kq222).wr W226).wr W229).wr W232)
  have G237 := (((((G209.ext E197).keep Kq222).wr W226).wr W229).wr W232)
  have G238 := (((((G211.ext E197).keep Kq222).wr W226).wr W229).wr W232)
  have G239 := (((((G213.ext E197).keep Kq222).wr W226).wr W229).wr W232)
  have G240 := (((((G215.ext E197).keep Kq222).wr W226).wr W229).wr W232)
  have G241 := (((((G219.ext E197).keep Kq222).wr W226).wr W229).wr W232)
  have G242 := (((((G199.ext E197).keep Kq222).wr W226).wr W229).wr W232)
  have G243 := (((((G201.ext E197).keep Kq222).wr W226).wr W229).wr W232)
  have G244 := (((((G203.ext E197).keep Kq222).wr W226).wr W229).wr W232)
  have G245 := (((f0_222.wr W226).wr W229).wr W232)
  have hfin : ((fun (v : Option Value) (h : Heap) (L : List Loc) => ∃ (b2 : Addr) (b8 : Addr) (b18 : Addr) (b29 : Addr) (b43 : Addr) (b59 : Addr) (b77 : Addr) (b97 : Addr) (b119 : Addr) (b143 : Addr) (b169 : Addr) (b197 : Addr), v = none ∧ Fr n0 L ∧ Keep h0 h [o0] ∧ h0.size ≤ b2 ∧ n0 ≤ b2 ∧ h0.size ≤ b8 ∧ n0 ≤ b8 ∧ h0.size ≤ b18 ∧ n0 ≤ b18 ∧ h0.size ≤ b29 ∧ n0 ≤ b29 ∧ h0.size ≤ b43 ∧ n0 ≤ b43 ∧ h0.size ≤ b59 ∧ n0 ≤ b59 ∧ h0.size ≤ b77 ∧ n0 ≤ b77 ∧ h0.size ≤ b97 ∧ n0 ≤ b97 ∧ h0.size ≤ b119 ∧ n0 ≤ b119 ∧ h0.size ≤ b143 ∧ n0 ≤ b143 ∧ h0.size ≤ b169 ∧ n0 ≤ b169 ∧ h0.size ≤ b197 ∧ n0 ≤ b197 ∧ b2 ≠ b8 ∧ b2 ≠ b18 ∧ b8 ≠ b18 ∧ b2 ≠ b29 ∧ b8 ≠ b29 ∧ b18 ≠ b29 ∧ b2 ≠ b43 ∧ b8 ≠ b43 ∧ b18 ≠ b43 ∧ b29 ≠ b43 ∧ b2 ≠ b59 ∧ b8 ≠ b59 ∧ b18 ≠ b59 ∧ b29 ≠ b59 ∧ b43 ≠ b59 ∧ b2 ≠ b77 ∧ b8 ≠ b77 ∧ b18 ≠ b77 ∧ b29 ≠ b77 ∧ b43 ≠ b77 ∧ b59 ≠ b77 ∧ b2 ≠ b97 ∧ b8 ≠ b97 ∧ b18 ≠ b97 ∧ b29 ≠ b97 ∧ b43 ≠ b97 ∧ b59 ≠ b97 ∧ b77 ≠ b97 ∧ b2 ≠ b119 ∧ b8 ≠ b119 ∧ b18 ≠ b119 ∧ b29 ≠ b119 ∧ b43 ≠ b119 ∧ b59 ≠ b119 ∧ b77 ≠ b119 ∧ b97 ≠ b119 ∧ b2 ≠ b143 ∧ b8 ≠ b143 ∧ b18 ≠ b143 ∧ b29 ≠ b143 ∧ b43 ≠ b143 ∧ b59 ≠ b143 ∧ b77 ≠ b143 ∧ b97 ≠ b143 ∧ b119 ≠ b143 ∧ b2 ≠ b169 ∧ b8 ≠ b169 ∧ b18 ≠ b169 ∧ b29 ≠ b169 ∧ b43 ≠ b169 ∧ b59 ≠ b169 ∧ b77 ≠ b169 ∧ b97 ≠ b169 ∧ b119 ≠ b169 ∧ b143 ≠ b169 ∧ b2 ≠ b197 ∧ b8 ≠ b197 ∧ b18 ≠ b197 ∧ b29 ≠ b197 ∧ b43 ≠ b197 ∧ b59 ≠ b197 ∧ b77 ≠ b197 ∧ b97 ≠ b197 ∧ b119 ≠ b197 ∧ b143 ≠ b197 ∧ b169 ≠ b197 ∧ Exa Z h o0 "com/example/tallywire/tallywire/rules/PathNode" ∧ Exa Z h b2 "java/util/LinkedHashMap" ∧ Exa Z h b8 "java/util/ArrayList" ∧ Exa Z h b18 "java/util/LinkedHashMap" ∧ Exa Z h b29 "java/util/ArrayList" ∧ Exa Z h b43 "java/util/ArrayList" ∧ Exa Z h b59 "java/util/ArrayList" ∧ Exa Z h b77 "java/util/ArrayList" ∧ Exa Z h b97 "java/util/ArrayList" ∧ Exa Z h b119 "java/util/ArrayList" ∧ Exa Z h b143 "java/util/ArrayList" ∧ Exa Z h b169 "java/util/ArrayList" ∧ Exa Z h b197 "java/util/ArrayList")) none h232 _ := ⟨b2, b8, b18, b29, b43, b59, b77, b97, b119, b143, b169, b197, rfl, N232, K232, sz_b2, low_b2, sz_b8, low_b8, sz_b18, low_b18, sz_b29, low_b29, sz_b43, low_b43, sz_b59, low_b59, sz_b77, low_b77, sz_b97, low_b97, sz_b119, low_b119, sz_b143, low_b143, sz_b169, low_b169, sz_b197, low_b197, ne9, ne19, ne21, ne32, ne34, ne30, ne46, ne50, ne44, ne48, ne62, ne68, ne60, ne64, ne66, ne80, ne88, ne78, ne82, ne84, ne86, ne100, ne110, ne98, ne102, ne104, ne106, ne108, ne122, ne132, ne120, ne124, ne126, ne128, ne130, ne134, ne148, ne158, ne146, ne150, ne152, ne154, ne156, ne160, ne144, ne176, ne186, ne174, ne178, ne180, ne182, ne184, ne188, ne170, ne172, ne206, ne216, ne204, ne208, ne210, ne212, ne214, ne218, ne198, ne200, ne202, G233, G234, G235, G236, G237, G238, G239, G240, G241, G242, G243, G244, G245⟩
  refine own_retV X232 hx hlk hP hrt (hb hby own_dpn_146) (by decide) (by decide) ?_
  rw [e232]; exact hfin
theorem own_dgt_0 : decode prog_137_method_1_code 0 = .ok (.aload_n 0, 1) := by decide +kernel
theorem own_dgt_1 : decode prog_137_method_1_code 1 = .ok (.invokespecial 1, 3) := by decide +kernel
theorem own_dgt_4 : decode prog_137_method_1_code 4 = .ok (.aload_n 0, 1) := by decide +kernel
theorem own_dgt_5 : decode prog_137_method_1_code 5 = .ok (.new 7, 3) := by decide +kernel
theorem own_dgt_8 : decode prog_137_method_1_code 8 = .ok (.dup, 1) := by decide +kernel
theorem own_dgt_9 : decode prog_137_method_1_code 9 = .ok (.ldc 9, 2) := by decide +kernel
theorem own_dgt_11 : decode prog_137_method_1_code 11 = .ok (.invokespecial 11, 3) := by decide +kernel
theorem own_pd_Ljava_lang_String__V_866 : parseMethodDescriptor "(Ljava/lang/String;)V" = some ⟨[(.object "java/lang/String")], none⟩ := by decide +kernel
theorem own_dgt_14 : decode prog_137_method_1_code 14 = .ok (.putfield 14, 3) := by decide +kernel
theorem own_dgt_17 : decode prog_137_method_1_code 17 = .ok (.aload_n 0, 1) := by decide +kernel
theorem own_dgt_18 : decode prog_137_method_1_code 18 = .ok (.new 20, 3) := by decide +kernel
theorem own_dgt_21 : decode prog_137_method_1_code 21 = .ok (.dup, 1) := by decide +kernel
theorem own_dgt_22 : decode prog_137_method_1_code 22 = .ok (.invokespecial 22, 3) := by decide +kernel
theorem own_dgt_25 : decode prog_137_method_1_code 25 = .ok (.putfield 23, 3) := by decide +kernel
theorem own_dgt_28 : decode prog_137_method_1_code 28 = .ok (.aload_n 0, 1) := by decide +kernel
theorem own_dgt_29 : decode prog_137_method_1_code 29 = .ok (.new 27, 3) := by decide +kernel
theorem own_dgt_32 : decode prog_137_method_1_code 32 = .ok (.dup, 1) := by decide +kernel
theorem own_dgt_33 : decode prog_137_method_1_code 33 = .ok (.invokespecial 29, 3) := by decide +kernel
theorem own_dgt_36 : decode prog_137_method_1_code 36 = .ok (.putfield 30, 3) := by decide +kernel
theorem own_dgt_39 : decode prog_137_method_1_code 39 = .ok (.aload_n 0, 1) := by decide +kernel
theorem own_dgt_40 : decode prog_137_method_1_code 40 = .ok (.new 27, 3) := by decide +kernel
theorem own_dgt_43 : decode prog_137_method_1_code 43 = .ok (.dup, 1) := by decide +kernel
theorem own_dgt_44 : decode prog_137_method_1_code 44 = .ok (.invokespecial 29, 3) := by decide +kernel
theorem own_dgt_47 : decode prog_137_method_1_code 47 = .ok (.putfield 33, 3) := by decide +kernel
theorem own_dgt_50 : decode prog_137_method_1_code 50 = .ok (.aload_n 0, 1) := by decide +kernel
theorem own_dgt_51 : decode prog_137_method_1_code 51 = .ok (.new 36, 3) := by decide +kernel
theorem own_dgt_54 : decode prog_137_method_1_code 54 = .ok (.dup, 1) := by decide +kernel
theorem own_dgt_55 : decode prog_137_method_1_code 55 = .ok (.invokespecial 38, 3) := by decide +kernel
theorem own_dgt_58 : decode prog_137_method_1_code 58 = .ok (.putfield 39, 3) := by decide +kernel
theorem own_dgt_61 : decode prog_137_method_1_code 61 = .ok (.aload_n 0, 1) := by decide +kernel
theorem own_dgt_62 : decode prog_137_method_1_code 62 = .ok (.aload_n 1, 1) := by decide +kernel
theorem own_dgt_63 : decode prog_137_method_1_code 63 = .ok (.putfield 42, 3) := by decide +kernel
theorem own_dgt_66 : decode prog_137_method_1_code 66 = .ok (.return_, 1) := by decide +kernel
theorem own_efgt (m : MethodId) (o0 : Addr) (o1 : Addr) : entryFrame m #[(.ref o0), (.ref o1)] 2 = mkF m 0 #[.val (.ref o0), .val (.ref o1)] [] := by first | (simp [entryFrame, mkF, argsToLocals, Value.category]; done) | rfl
theorem own_pn_com_example_tallywire_tallywire_rules_GuidelineTree : plainName "com/example/tallywire/tallywire/rules/GuidelineTree" = true := by first | (simp [plainName, overriddenIn]; done) | decide +kernel
set_option maxRecDepth 65536 in
set_option maxHeartbeats 40000000 in
theorem own_mgt (l : Launch) (Z : State) (a0 : Array Value) (hw : ∀ d ∈ tables_1, d.before a0 Z = true) (ws : List Jvm.Cond) (o0 : Addr) (o1 : Addr) (s_ArrayList_DEFAULTCAPACITY_EMPTY_ELEMENTDATA : Addr) (h0 : Heap) (n0 : Nat) (Z0 : n0 ≤ h0.size) (E_o0 : Exa Z h0 o0 "com/example/tallywire/tallywire/rules/GuidelineTree") (F_o0_root : Fld Z h0 o0 "com/example/tallywire/tallywire/rules/GuidelineTree" "root" "Lcom/example/tallywire/tallywire/rules/PathNode;" .null) (F_o0_givenOn : Fld Z h0 o0 "com/example/tallywire/tallywire/rules/GuidelineTree" "givenOn" "Ljava/util/Map;" .null) (F_o0_touchedOn : Fld Z h0 o0 "com/example/tallywire/tallywire/rules/GuidelineTree" "touchedOn" "Ljava/util/Map;" .null) (F_o0_removedOn : Fld Z h0 o0 "com/example/tallywire/tallywire/rules/GuidelineTree" "removedOn" "Ljava/util/Map;" .null) (F_o0_named : Fld Z h0 o0 "com/example/tallywire/tallywire/rules/GuidelineTree" "named" "Ljava/util/Map;" .null) (F_o0_lines : Fld Z h0 o0 "com/example/tallywire/tallywire/rules/GuidelineTree" "lines" "Lcom/example/tallywire/tallywire/rules/LineReader;" .null) (F_o0_facts : Fld Z h0 o0 "com/example/tallywire/tallywire/rules/GuidelineTree" "facts" "I" (.int (0 : Int32))) (F_o0_tallies : Fld Z h0 o0 "com/example/tallywire/tallywire/rules/GuidelineTree" "tallies" "I" (.int (0 : Int32))) (S_ArrayList_DEFAULTCAPACITY_EMPTY_ELEMENTDATA : Sta Z h0 "java/util/ArrayList" "DEFAULTCAPACITY_EMPTY_ELEMENTDATA" "[Ljava/lang/Object;" (.ref s_ArrayList_DEFAULTCAPACITY_EMPTY_ELEMENTDATA)) (low_o0 : n0 ≤ o0) :
    own_MetW l Z (⟨"com/example/tallywire/tallywire/rules/GuidelineTree", "<init>", "(Lcom/example/tallywire/tallywire/rules/LineReader;)V"⟩ : MethodName) prog_137_method_1_code 2 none ws ({ frames := 5, cells := 24, slots := 400, locals := 65 } : Room) #[(.ref o0), (.ref o1)] h0 (fun (v : Option Value) (h : Heap) (L : List Loc) => ∃ (b2 : Addr), v = none ∧ Fr n0 L ∧ Keep h0 h [o0] ∧ h0.size ≤ b2 ∧ n0 ≤ b2 ∧ Exa Z h o0 "com/example/tallywire/tallywire/rules/GuidelineTree" ∧ Fld Z h o0 "com/example/tallywire/tallywire/rules/GuidelineTree" "root" "Lcom/example/tallywire/tallywire/rules/PathNode;" (.ref b2) ∧ Fld Z h o0 "com/example/tallywire/tallywire/rules/GuidelineTree" "facts" "I" (.int (0 : Int32)) ∧ Fld Z h o0 "com/example/tallywire/tallywire/rules/GuidelineTree" "tallies" "I" (.int (0 : Int32))) := by
  refine own_enterW (plainFor_of_name own_pn_com_example_tallywire_tallywire_rules_GuidelineTree) ?_
  intro p e s m below meth c s₁ P vm0 k0 hx hby hml hrt hlk hown hnm hZ X0 e0 hS hk hP
  have N0 := Fr.nil n0
  have K0 := Keep.refl h0 [o0]
  have hml' : c.maxLocals = 2 := hml
  refine own_cast (own_efgt m o0 o1) ?_
  show own_End p e below P (s₁.setTop (mkF m 0 #[.val (.ref o0), .val (.ref o1)] []))
  refine own_st (fun _ => XS.aloadN X0.here hx rfl (hb hby own_dgt_0) rfl rfl) ?_
  show own_End p e below P (s₁.setTop (mkF m 1 #[.val (.ref o0), .val (.ref o1)] [(.ref o0)]))
  obtain ⟨T1, X1, e1, st1⟩ := initO X0 hx hZ hown (hw _ (List.mem_of_getElem? (i := 25) rfl)) (hw _ (List.mem_of_getElem? (i := 18) rfl)) (hw _ (List.mem_of_getElem? (i := 19) rfl)) e0 (g := (mkF m 1 #[.val (.ref o0), .val (.ref o1)] [(.ref o0)])) rfl (by rw [hml']; rfl) rfl (hb hby own_dgt_1) (by decide) (W := 0) (by show 2 * 0 + _ ≤ _; exact Nat.le_of_eq rfl) (by decide)
  refine own_st (fun _ => st1 _) ?_
  show own_End p e below P (T1.setTop (mkF m 4 #[.val (.ref o0), .val (.ref o1)] []))
  refine own_st (fun _ => XS.aloadN X1.here hx rfl (hb hby own_dgt_4) rfl rfl) ?_
  show own_End p e below P (T1.setTop (mkF m 5 #[.val (.ref o0), .val (.ref o1)] [(.ref o0)]))
  obtain ⟨T2, h2, X2, e2, E2, A2, D2, -, st2⟩ := newO X1 hx hZ hown (hw _ (List.mem_of_getElem? (i := 26) rfl)) (hw _ (List.mem_of_getElem? (i := 27) rfl)) (hw _ (List.mem_of_getElem? (i := 28) rfl)) e1 (g := (mkF m 5 #[.val (.ref o0), .val (.ref o1)] [(.ref o0)])) rfl (hb hby own_dgt_5) (by decide) (by decide)
  obtain ⟨b2, g2⟩ : ∃ z, z = h0.size := ⟨_, rfl⟩
  rw [← g2] at A2 D2 st2
  have ne3 : o0 ≠ b2 := Nat.ne_of_lt (Nat.lt_of_lt_of_le E_o0.lt (Nat.le_of_eq g2.symm))
  have low_b2 : n0 ≤ b2 := Nat.le_trans (Nat.le_trans Z0 K0.1) (Nat.le_of_eq g2.symm)
  have sz_b2 : h0.size ≤ b2 := Nat.le_trans K0.1 (Nat.le_of_eq g2.symm)
  have K2 := Keep.ext K0 E2
  have F_b2_children : Fld Z h2 b2 "com/example/tallywire/tallywire/rules/PathNode" "children" "Ljava/util/Map;" .null := D2 (Or.inr (hw _ (List.mem_of_getElem? (i := 61) rfl))) (ty := (.object "java/util/Map")) (by decide)
  have F_b2_values : Fld Z h2 b2 "com/example/tallywire/tallywire/rules/PathNode" "values" "Ljava/util/List;" .null := D2 (Or.inr (hw _ (List.mem_of_getElem? (i := 87) rfl))) (ty := (.object "java/util/List")) (by decide)
  have F_b2_attributes : Fld Z h2 b2 "com/example/tallywire/tallywire/rules/PathNode" "attributes" "Ljava/util/Map;" .null := D2 (Or.inr (hw _ (List.mem_of_getElem? (i := 89) rfl))) (ty := (.object "java/util/Map")) (by decide)
  have F_b2_requiredChildren : Fld Z h2 b2 "com/example/tallywire/tallywire/rules/PathNode" "requiredChildren" "Ljava/util/List;" .null := D2 (Or.inr (hw _ (List.mem_of_getElem? (i := 91) rfl))) (ty := (.object "java/util/List")) (by decide)
  have F_b2_rules : Fld Z h2 b2 "com/example/tallywire/tallywire/rules/PathNode" "rules" "Ljava/util/List;" .null := D2 (Or.inr (hw _ (List.mem_of_getElem? (i := 93) rfl))) (ty := (.object "java/util/List")) (by decide)
  have F_b2_facts : Fld Z h2 b2 "com/example/tallywire/tallywire/rules/PathNode" "facts" "Ljava/util/List;" .null := D2 (Or.inr (hw _ (List.mem_of_getElem? (i := 95) rfl))) (ty := (.object "java/util/List")) (by decide)
  have F_b2_valueFacts : Fld Z h2 b2 "com/example/tallywire/tallywire/rules/PathNode" "valueFacts" "Ljava/util/List;" .null := D2 (Or.inr (hw _ (List.mem_of_getElem? (i := 97) rfl))) (ty := (.object "java/util/List")) (by decide)
  have F_b2_textFacts : Fld Z h2 b2 "com/example/tallywire/tallywire/rules/PathNode" "textFacts" "Ljava/util/List;" .null := D2 (Or.inr (hw _ (List.mem_of_getElem? (i := 99) rfl))) (ty := (.object "java/util/List")) (by decide)
  have F_b2_anchored : Fld Z h2 b2 "com/example/tallywire/tallywire/rules/PathNode" "anchored" "Ljava/util/List;" .null := D2 (Or.inr (hw _ (List.mem_of_getElem? (i := 101) rfl))) (ty := (.object "java/util/List")) (by decide)
  have F_b2_lacks : Fld Z h2 b2 "com/example/tallywire/tallywire/rules/PathNode" "lacks" "Ljava/util/List;" .null := D2 (Or.inr (hw _ (List.mem_of_getElem? (i := 103) rfl))) (ty := (.object "java/util/List")) (by decide)
  have F_b2_tallies : Fld Z h2 b2 "com/example/tallywire/tallywire/rules/PathNode" "tallies" "Ljava/util/List;" .null := D2 (Or.inr (hw _ (List.mem_of_getElem? (i := 105) rfl))) (ty := (.object "java/util/List")) (by decide)
  have F_b2_tallyItems : Fld Z h2 b2 "com/example/tallywire/tallywire/rules/PathNode" "tallyItems" "Ljava/util/List;" .null := D2 (Or.inr (hw _ (List.mem_of_getElem? (i := 107) rfl))) (ty := (.object "java/util/List")) (by decide)
  have F_b2_requiredIndex : Fld Z h2 b2 "com/example/tallywire/tallywire/rules/PathNode" "requiredIndex" "I" (.int (0 : Int32)) := D2 (Or.inl (hw _ (List.mem_of_getElem? (i := 109) rfl))) (ty := .int) (by decide)
  have F_b2_name : Fld Z h2 b2 "com/example/tallywire/tallywire/rules/PathNode" "name" "Ljava/lang/String;" .null := D2 (Or.inr (hw _ (List.mem_of_getElem? (i := 111) rfl))) (ty := (.object "java/lang/String")) (by decide)
  refine own_st (fun _ => st2 _) ?_
  show own_End p e below P (T2.setTop (mkF m 8 #[.val (.ref o0), .val (.ref o1)] [(.ref b2), (.ref o0)]))
  refine own_st (fun _ => XS.dup X2.here hx rfl (hb hby own_dgt_8) rfl rfl) ?_
  show own_End p e below P (T2.setTop (mkF m 9 #[.val (.ref o0), .val (.ref o1)] [(.ref b2), (.ref b2), (.ref o0)]))
  have G5 := (Nat.le_trans hk E2.1)
  obtain ⟨a4, T4, h4, k4, X4, e4, E4, hS, hk4, hZ, hown, st4⟩ := ldcS X2 hx hZ hown (hw _ (List.mem_of_getElem? (i := 29) rfl)) (own_wS hw) e2 hS G5 (g := (mkF m 9 #[.val (.ref o0), .val (.ref o1)] [(.ref b2), (.ref b2), (.ref o0)])) rfl (hb hby own_dgt_9) (n := 0) (by decide) (by decide) (by decide) (by decide)
  have K4 := Keep.ext K2 E4
  refine own_st (fun _ => st4 _) ?_
  show own_End p e below P (T4.setTop (mkF m 11 #[.val (.ref o0), .val (.ref o1)] [(.ref a4), (.ref b2), (.ref b2), (.ref o0)]))
  have G7 := (A2.ext E4)
  have G8 := (F_b2_children.ext E4)
  have G9 := (F_b2_values.ext E4)
  have G10 := (F_b2_attributes.ext E4)
  have G11 := (F_b2_requiredChildren.ext E4)
  have G12 := (F_b2_rules.ext E4)
  have G13 := (F_b2_facts.ext E4)
  have G14 := (F_b2_valueFacts.ext E4)
  have G15 := (F_b2_textFacts.ext E4)
  have G16 := (F_b2_anchored.ext E4)
  have G17 := (F_b2_lacks.ext E4)
  have G18 := (F_b2_tallies.ext E4)
  have G19 := (F_b2_tallyItems.ext E4)
  have G20 := (F_b2_requiredIndex.ext E4)
  have G21 := (F_b2_name.ext E4)
  have G22 := ((S_ArrayList_DEFAULTCAPACITY_EMPTY_ELEMENTDATA.ext E2).ext E4)
  refine own_callI X4 hx hZ (y := (⟨"com/example/tallywire/tallywire/rules/PathNode", "<init>", "(Ljava/lang/String;)V"⟩ : MethodName)) rfl hown (hw _ (List.mem_of_getElem? (i := 30) rfl)) (hw _ (List.mem_of_getElem? (i := 31) rfl)) (hw _ (List.mem_of_getElem? (i := 28) rfl)) (hw _ (List.mem_of_getElem? (i := 32) rfl)) (by decide) (own_mpn l Z a0 hw [] b2 a4 s_ArrayList_DEFAULTCAPACITY_EMPTY_ELEMENTDATA h4 n0 (Nat.le_trans Z0 K4.1) G7 G8 G9 G10 G11 G12 G13 G14 G15 G16 G17 G18 G19 G20 G21 G22 low_b2) 2 (by decide) (by decide) e4 (by decide) (by decide) (g := (mkF m 11 #[.val (.ref o0), .val (.ref o1)] [(.ref a4), (.ref b2), (.ref b2), (.ref o0)])) rfl (by rw [hml']; rfl) (a := b2) (argsL := [(.ref a4)]) (rest := [(.ref b2), (.ref o0)]) rfl (lenOf own_pd_Ljava_lang_String__V_866 rfl) rfl (by show 2 * 0 + _ ≤ _; exact Nat.le_of_eq rfl) (hb hby own_dgt_11) (fun r6 T6 L6 X6 hQ6 => ?_)
  obtain ⟨b2_6, b8_6, b18_6, b29_6, b43_6, b59_6, b77_6, b97_6, b119_6, b143_6, b169_6, b197_6, rfl, Nq6, Kq6, szq_b2_6, low_b2_6, szq_b8_6, low_b8_6, szq_b18_6, low_b18_6, szq_b29_6, low_b29_6, szq_b43_6, low_b43_6, szq_b59_6, low_b59_6, szq_b77_6, low_b77_6, szq_b97_6, low_b97_6, szq_b119_6, low_b119_6, szq_b143_6, low_b143_6, szq_b169_6, low_b169_6, szq_b197_6, low_b197_6, ne_b2_6_b8_6, ne_b2_6_b18_6, ne_b8_6_b18_6, ne_b2_6_b29_6, ne_b8_6_b29_6, ne_b18_6_b29_6, ne_b2_6_b43_6, ne_b8_6_b43_6, ne_b18_6_b43_6, ne_b29_6_b43_6, ne_b2_6_b59_6, ne_b8_6_b59_6, ne_b18_6_b59_6, ne_b29_6_b59_6, ne_b43_6_b59_6, ne_b2_6_b77_6, ne_b8_6_b77_6, ne_b18_6_b77_6, ne_b29_6_b77_6, ne_b43_6_b77_6, ne_b59_6_b77_6, ne_b2_6_b97_6, ne_b8_6_b97_6, ne_b18_6_b97_6, ne_b29_6_b97_6, ne_b43_6_b97_6, ne_b59_6_b97_6, ne_b77_6_b97_6, ne_b2_6_b119_6, ne_b8_6_b119_6, ne_b18_6_b119_6, ne_b29_6_b119_6, ne_b43_6_b119_6, ne_b59_6_b119_6, ne_b77_6_b119_6, ne_b97_6_b119_6, ne_b2_6_b143_6, ne_b8_6_b143_6, ne_b18_6_b143_6, ne_b29_6_b143_6, ne_b43_6_b143_6, ne_b59_6_b143_6, ne_b77_6_b143_6, ne_b97_6_b143_6, ne_b119_6_b143_6, ne_b2_6_b169_6, ne_b8_6_b169_6, ne_b18_6_b169_6, ne_b29_6_b169_6, ne_b43_6_b169_6, ne_b59_6_b169_6, ne_b77_6_b169_6, ne_b97_6_b169_6, ne_b119_6_b169_6, ne_b143_6_b169_6, ne_b2_6_b197_6, ne_b8_6_b197_6, ne_b18_6_b197_6, ne_b29_6_b197_6, ne_b43_6_b197_6, ne_b59_6_b197_6, ne_b77_6_b197_6, ne_b97_6_b197_6, ne_b119_6_b197_6, ne_b143_6_b197_6, ne_b169_6_b197_6, f0_6, f1_6, f2_6, f3_6, f4_6, f5_6, f6_6, f7_6, f8_6, f9_6, f10_6, f11_6, f12_6⟩ := hQ6
  have N6 := Fr.app N0 Nq6
  have ne23 : b2 ≠ b2_6 := Nat.ne_of_lt (Nat.lt_of_lt_of_le G7.lt szq_b2_6)
  have ne24 : b2 ≠ b8_6 := Nat.ne_of_lt (Nat.lt_of_lt_of_le G7.lt szq_b8_6)
  have ne25 : b2 ≠ b18_6 := Nat.ne_of_lt (Nat.lt_of_lt_of_le G7.lt szq_b18_6)
  have ne26 : b2 ≠ b29_6 := Nat.ne_of_lt (Nat.lt_of_lt_of_le G7.lt szq_b29_6)
  have ne27 : b2 ≠ b43_6 := Nat.ne_of_lt (Nat.lt_of_lt_of_le G7.lt szq_b43_6)
  have ne28 : b2 ≠ b59_6 := Nat.ne_of_lt (Nat.lt_of_lt_of_le G7.lt szq_b59_6)
  have ne29 : b2 ≠ b77_6 := Nat.ne_of_lt (Nat.lt_of_lt_of_le G7.lt szq_b77_6)
  have ne30 : b2 ≠ b97_6 := Nat.ne_of_lt (Nat.lt_of_lt_of_le G7.lt szq_b97_6)
  have ne31 : b2 ≠ b119_6 := Nat.ne_of_lt (Nat.lt_of_lt_of_le G7.lt szq_b119_6)
  have ne32 : b2 ≠ b143_6 := Nat.ne_of_lt (Nat.lt_of_lt_of_le G7.lt szq_b143_6)
  have ne33 : b2 ≠ b169_6 := Nat.ne_of_lt (Nat.lt_of_lt_of_le G7.lt szq_b169_6)
  have ne34 : b2 ≠ b197_6 := Nat.ne_of_lt (Nat.lt_of_lt_of_le G7.lt szq_b197_6)
  have G35 := ((E_o0.ext E2).ext E4)
  have ne36 : o0 ≠ b2_6 := Nat.ne_of_lt (Nat.lt_of_lt_of_le G35.lt szq_b2_6)
  have ne37 : o0 ≠ b8_6 := Nat.ne_of_lt (Nat.lt_of_lt_of_le G35.lt szq_b8_6)
  have ne38 : o0 ≠ b18_6 := Nat.ne_of_lt (Nat.lt_of_lt_of_le G35.lt szq_b18_6)
  have ne39 : o0 ≠ b29_6 := Nat.ne_of_lt (Nat.lt_of_lt_of_le G35.lt szq_b29_6)
  have ne40 : o0 ≠ b43_6 := Nat.ne_of_lt (Nat.lt_of_lt_of_le G35.lt szq_b43_6)
  have ne41 : o0 ≠ b59_6 := Nat.ne_of_lt (Nat.lt_of_lt_of_le G35.lt szq_b59_6)
  have ne42 : o0 ≠ b77_6 := Nat.ne_of_lt (Nat.lt_of_lt_of_le G35.lt szq_b77_6)
  have ne43 : o0 ≠ b97_6 := Nat.ne_of_lt (Nat.lt_of_lt_of_le G35.lt szq_b97_6)
  have ne44 : o0 ≠ b119_6 := Nat.ne_of_lt (Nat.lt_of_lt_of_le G35.lt szq_b119_6)
  have ne45 : o0 ≠ b143_6 := Nat.ne_of_lt (Nat.lt_of_lt_of_le G35.lt szq_b143_6)
  have ne46 : o0 ≠ b169_6 := Nat.ne_of_lt (Nat.lt_of_lt_of_le G35.lt szq_b169_6)
  have ne47 : o0 ≠ b197_6 := Nat.ne_of_lt (Nat.lt_of_lt_of_le G35.lt szq_b197_6)
  have sz_b2_6 := Nat.le_trans K4.1 szq_b2_6
  have sz_b8_6 := Nat.le_trans K4.1 szq_b8_6
  have sz_b18_6 := Nat.le_trans K4.1 szq_b18_6
  have sz_b29_6 := Nat.le_trans K4.1 szq_b29_6
  have sz_b43_6 := Nat.le_trans K4.1 szq_b43_6
  have sz_b59_6 := Nat.le_trans K4.1 szq_b59_6
  have sz_b77_6 := Nat.le_trans K4.1 szq_b77_6
  have sz_b97_6 := Nat.le_trans K4.1 szq_b97_6
  have sz_b119_6 := Nat.le_trans K4.1 szq_b119_6
  have sz_b143_6 := Nat.le_trans K4.1 szq_b143_6
  have sz_b169_6 := Nat.le_trans K4.1 szq_b169_6
  have sz_b197_6 := Nat.le_trans K4.1 szq_b197_6
  have K6 := Keep.trans K4 Kq6 (allS (Or.inr sz_b2) all0)
  show own_End p e below P (T6.setTop (mkF m 14 #[.val (.ref o0), .val (.ref o1)] [(.ref b2), (.ref o0)]))
  have G48 := (((F_o0_root.ext E2).ext E4).keep Kq6 (ninS ne3 nin0))
  have G49 := (G35.keep Kq6)
  obtain ⟨T50, h50, X50, e50, W50, st50⟩ := putF X6 hx hZ hown (host := "") (Or.inl (hw _ (List.mem_of_getElem? (i := 112) rfl))) Via.refl rfl G48 G49 (Or.inr ⟨(hw _ (List.mem_of_getElem? (i := 113) rfl)), rfl, hnm⟩) (hw _ (List.mem_of_getElem? (i := 1) rfl)) (ty := (.object "com/example/tallywire/tallywire/rules/PathNode")) (by decide) rfl rfl (g := (mkF m 14 #[.val (.ref o0), .val (.ref o1)] [(.ref b2), (.ref o0)])) rfl rfl (hb hby own_dgt_14)
  have N50 := Fr.snoc X50 N6 low_o0
  have K50 := Keep.wr K6 W50 (Or.inl (List.mem_of_getElem? (i := 0) rfl))
  have F50 := G48.same W50
  refine own_st (fun _ => st50 _) ?_
  show own_End p e below P (T50.setTop (mkF m 17 #[.val (.ref o0), .val (.ref o1)] []))
  refine own_st (fun _ => XS.aloadN X50.here hx rfl (hb hby own_dgt_17) rfl rfl) ?_
  show own_End p e below P (T50.setTop (mkF m 18 #[.val (.ref o0), .val (.ref o1)] [(.ref o0)]))
  obtain ⟨T51, h51, X51, e51, E51, A51, D51, -, st51⟩ := newO X50 hx hZ hown (hw _ (List.mem_of_getElem? (i := 114) rfl)) (hw _ (List.mem_of_getElem? (i := 115) rfl)) (hw _ (List.mem_of_getElem? (i := 44) rfl)) e50 (g := (mkF m 18 #[.val (.ref o0), .val (.ref o1)] [(.ref o0)])) rfl (hb hby own_dgt_18) (by decide) (by decide)
  obtain ⟨b51, g51⟩ : ∃ z, z = h50.size := ⟨_, rfl⟩
  rw [← g51] at A51 D51 st51
  have G53 := (f9_6.wr W50)
  have ne52 : b119_6 ≠ b51 := Nat.ne_of_lt (Nat.lt_of_lt_of_le G53.lt (Nat.le_of_eq g51.symm))
  have G55 := (f10_6.wr W50)
  have ne54 : b143_6 ≠ b51 := Nat.ne_of_lt (Nat.lt_of_lt_of_le G55.lt (Nat.le_of_eq g51.symm))
  have G57 := (f11_6.wr W50)
  have ne56 : b169_6 ≠ b51 := Nat.ne_of_lt (Nat.lt_of_lt_of_le G57.lt (Nat.le_of_eq g51.symm))
  have G59 := (f3_6.wr W50)
  have ne58 : b18_6 ≠ b51 := Nat.ne_of_lt (Nat.lt_of_lt_of_le G59.lt (Nat.le_of_eq g51.symm))
  have G61 := (f12_6.wr W50)
  have ne60 : b197_6 ≠ b51 := Nat.ne_of_lt (Nat.lt_of_lt_of_le G61.lt (Nat.le_of_eq g51.symm))
  have G63 := (f0_6.wr W50)
  have ne62 : b2 ≠ b51 := Nat.ne_of_lt (Nat.lt_of_lt_of_le G63.lt (Nat.le_of_eq g51.symm))
  have G65 := (f4_6.wr W50)
  have ne64 : b29_6 ≠ b51 := Nat.ne_of_lt (Nat.lt_of_lt_of_le G65.lt (Nat.le_of_eq g51.symm))
  have G67 := (f1_6.wr W50)
  have ne66 : b2_6 ≠ b51 := Nat.ne_of_lt (Nat.lt_of_lt_of_le G67.lt (Nat.le_of_eq g51.symm))
  have G69 := (f5_6.wr W50)
  have ne68 : b43_6 ≠ b51 := Nat.ne_of_lt (Nat.lt_of_lt_of_le G69.lt (Nat.le_of_eq g51.symm))
  have G71 := (f6_6.wr W50)
  have ne70 : b59_6 ≠ b51 := Nat.ne_of_lt (Nat.lt_of_lt_of_le G71.lt (Nat.le_of_eq g51.symm))
  have G73 := (f7_6.wr W50)
  have ne72 : b77_6 ≠ b51 := Nat.ne_of_lt (Nat.lt_of_lt_of_le G73.lt (Nat.le_of_eq g51.symm))
  have G75 := (f2_6.wr W50)
  have ne74 : b8_6 ≠ b51 := Nat.ne_of_lt (Nat.lt_of_lt_of_le G75.lt (Nat.le_of_eq g51.symm))
  have G77 := (f8_6.wr W50)
  have ne76 : b97_6 ≠ b51 := Nat.ne_of_lt (Nat.lt_of_lt_of_le G77.lt (Nat.le_of_eq g51.symm))
  have G79 := (G49.wr W50)
  have ne78 : o0 ≠ b51 := Nat.ne_of_lt (Nat.lt_of_lt_of_le G79.lt (Nat.le_of_eq g51.symm))
  have low_b51 : n0 ≤ b51 := Nat.le_trans (Nat.le_trans Z0 K50.1) (Nat.le_of_eq g51.symm)
  have sz_b51 : h0.size ≤ b51 := Nat.le_trans K50.1 (Nat.le_of_eq g51.symm)
  have K51 := Keep.ext K50 E51
  have F_b51_loadFactor : Fld Z h51 b51 "java/util/HashMap" "loadFactor" "F" (defaultValue .float) := D51 (Or.inr (hw _ (List.mem_of_getElem? (i := 118) rfl))) (ty := .float) (by decide)
  refine own_st (fun _ => st51 _) ?_
  show own_End p e below P (T51.setTop (mkF m 21 #[.val (.ref o0), .val (.ref o1)] [(.ref b51), (.ref o0)]))
  refine own_st (fun _ => XS.dup X51.here hx rfl (hb hby own_dgt_21) rfl rfl) ?_
  show own_End p e below P (T51.setTop (mkF m 22 #[.val (.ref o0), .val (.ref o1)] [(.ref b51), (.ref b51), (.ref o0)]))
  refine own_callI X51 hx hZ (y := (⟨"java/util/HashMap", "<init>", "()V"⟩ : MethodName)) rfl hown (hw _ (List.mem_of_getElem? (i := 116) rfl)) (hw _ (List.mem_of_getElem? (i := 41) rfl)) (hw _ (List.mem_of_getElem? (i := 44) rfl)) (hw _ (List.mem_of_getElem? (i := 45) rfl)) (by decide) (own_mhmH l Z a0 hw [] b51  h51 n0 (Nat.le_trans Z0 K51.1) A51 F_b51_loadFactor low_b51) 2 (by decide) (by decide) e51 (by decide) (by decide) (g := (mkF m 22 #[.val (.ref o0), .val (.ref o1)] [(.ref b51), (.ref b51), (.ref o0)])) rfl (by rw [hml']; rfl) (a := b51) (argsL := []) (rest := [(.ref b51), (.ref o0)]) rfl (lenOf own_pd_V_167 rfl) rfl (by show 2 * 0 + _ ≤ _; exact Nat.le_of_eq rfl) (hb hby own_dgt_22) (fun r80 T80 L80 X80 hQ80 => ?_)
  obtain ⟨rfl, Nq80, Kq80, f0_80, f1_80⟩ := hQ80
  have N80 := Fr.app N50 Nq80
  have K80 := Keep.trans K51 Kq80 (allS (Or.inr sz_b51) all0)
  show own_End p e below P (T80.setTop (mkF m 25 #[.val (.ref o0), .val (.ref o1)] [(.ref b51), (.ref o0)]))
  have G81 := ((((((F_o0_givenOn.ext E2).ext E4).keep Kq6 (ninS ne3 nin0)).other W50 (Or.inr (slot_ne (Or.inr (hw _ (List.mem_of_getElem? (i := 120) rfl))) (Or.inr (hw _ (List.mem_of_getElem? (i := 113) rfl))) (by decide) (t := (.object "java/util/Map")) (t' := (.object "com/example/tallywire/tallywire/rules/PathNode")) (by decide) (by decide)))).ext E51).keep Kq80 (ninS ne78 nin0))
  have G82 := ((G79.ext E51).keep Kq80)
  obtain ⟨T83, h83, X83, e83, W83, st83⟩ := putF X80 hx hZ hown (host := "") (Or.inl (hw _ (List.mem_of_getElem? (i := 119) rfl))) Via.refl rfl G81 G82 (Or.inr ⟨(hw _ (List.mem_of_getElem? (i := 120) rfl)), rfl, hnm⟩) (hw _ (List.mem_of_getElem? (i := 1) rfl)) (ty := (.object "java/util/Map")) (by decide) rfl rfl (g := (mkF m 25 #[.val (.ref o0), .val (.ref o1)] [(.ref b51), (.ref o0)])) rfl rfl (hb hby own_dgt_25)
  have N83 := Fr.snoc X83 N80 low_o0
  have K83 := Keep.wr K80 W83 (Or.inl (List.mem_of_getElem? (i := 0) rfl))
  have F83 := G81.same W83
  refine own_st (fun _ => st83 _) ?_
  show own_End p e below P (T83.setTop (mkF m 28 #[.val (.ref o0), .val (.ref o1)] []))
  refine own_st (fun _ => XS.aloadN X83.here hx rfl (hb hby own_dgt_28) rfl rfl) ?_
  show own_End p e below P (T83.setTop (mkF m 29 #[.val (.ref o0), .val (.ref o1)] [(.ref o0)]))
  obtain ⟨T84, h84, X84, e84, E84, A84, D84, -, st84⟩ := newO X83 hx hZ hown (hw _ (List.mem_of_getElem? (i := 121) rfl)) (hw _ (List.mem_of_getElem? (i := 122) rfl)) (hw _ (List.mem_of_getElem? (i := 123) rfl)) e83 (g := (mkF m 29 #[.val (.ref o0), .val (.ref o1)] [(.ref o0)])) rfl (hb hby own_dgt_29) (by decide) (by decide)
  obtain ⟨b84, g84⟩ : ∃ z, z = h83.size := ⟨_, rfl⟩
  rw [← g84] at A84 D84 st84
  have G86 := (((G53.ext E51).keep Kq80).wr W83)
  have ne85 : b119_6 ≠ b84 := Nat.ne_of_lt (Nat.lt_of_lt_of_le G86.lt (Nat.le_of_eq g84.symm))
  have G88 := (((G55.ext E51).keep Kq80).wr W83)
  have ne87 : b143_6 ≠ b84 := Nat.ne_of_lt (Nat.lt_of_lt_of_le G88.lt (Nat.le_of_eq g84.symm))
  have G90 := (((G57.ext E51).keep Kq80).wr W83)
  have ne89 : b169_6 ≠ b84 := Nat.ne_of_lt (Nat.lt_of_lt_of_le G90.lt (Nat.le_of_eq g84.symm))
  have G92 := (((G59.ext E51).keep Kq80).wr W83)
  have ne91 : b18_6 ≠ b84 := Nat.ne_of_lt (Nat.lt_of_lt_of_le G92.lt (Nat.le_of_eq g84.symm))
  have G94 := (((G61.ext E51).keep Kq80).wr W83)
  have ne93 : b197_6 ≠ b84 := Nat.ne_of_lt (Nat.lt_of_lt_of_le G94.lt (Nat.le_of_eq g84.symm))
  have G96 := (((G63.ext E51).keep Kq80).wr W83)
  have ne95 : b2 ≠ b84 := Nat.ne_of_lt (Nat.lt_of_lt_of_le G96.lt (Nat.le_of_eq g84.symm))
  have G98 := (((G65.ext E51).keep Kq80).wr W83)
  have ne97 : b29_6 ≠ b84 := Nat.ne_of_lt (Nat.lt_of_lt_of_le G98.lt (Nat.le_of_eq g84.symm))
  have G100 := (((G67.ext E51).keep Kq80).wr W83)
  have ne99 : b2_6 ≠ b84 := Nat.ne_of_lt (Nat.lt_of_lt_of_le G100.lt (Nat.le_of_eq g84.symm))
  have G102 := (((G69.ext E51).keep Kq80).wr W83)
  have ne101 : b43_6 ≠ b84 := Nat.ne_of_lt (Nat.lt_of_lt_of_le G102.lt (Nat.le_of_eq g84.symm))
  have G104 := (f0_80.wr W83)
  have ne103 : b51 ≠ b84 := Nat.ne_of_lt (Nat.lt_of_lt_of_le G104.lt (Nat.le_of_eq g84.symm))
  have G106 := (((G71.ext E51).keep Kq80).wr W83)
  have ne105 : b59_6 ≠ b84 := Nat.ne_of_lt (Nat.lt_of_lt_of_le G106.lt (Nat.le_of_eq g84.symm))
  have G108 := (((G73.ext E51).keep Kq80).wr W83)
  have ne107 : b77_6 ≠ b84 := Nat.ne_of_lt (Nat.lt_of_lt_of_le G108.lt (Nat.le_of_eq g84.symm))
  have G110 := (((G75.ext E51).keep Kq80).wr W83)
  have ne109 : b8_6 ≠ b84 := Nat.ne_of_lt (Nat.lt_of_lt_of_le G110.lt (Nat.le_of_eq g84.symm))
  have G112 := (((G77.ext E51).keep Kq80).wr W83)
  have ne111 : b97_6 ≠ b84 := Nat.ne_of_lt (Nat.lt_of_lt_of_le G112.lt (Nat.le_of_eq g84.symm))
  have G114 := (G82.wr W83)
  have ne113 : o0 ≠ b84 := Nat.ne_of_lt (Nat.lt_of_lt_of_le G114.lt (Nat.le_of_eq g84.symm))
  have low_b84 : n0 ≤ b84 := Nat.le_trans (Nat.le_trans Z0 K83.1) (Nat.le_of_eq g84.symm)
  have sz_b84 : h0.size ≤ b84 := Nat.le_trans K83.1 (Nat.le_of_eq g84.symm)
  have K84 := Keep.ext K83 E84
  have F_b84_table : Fld Z h84 b84 "java/util/IdentityHashMap" "table" "[Ljava/lang/Object;" .null := D84 (Or.inl (hw _ (List.mem_of_getElem? (i := 137) rfl))) (ty := (.array (.object "java/lang/Object"))) (by decide)
  refine own_st (fun _ => st84 _) ?_
  show own_End p e below P (T84.setTop (mkF m 32 #[.val (.ref o0), .val (.ref o1)] [(.ref b84), (.ref o0)]))
  refine own_st (fun _ => XS.dup X84.here hx rfl (hb hby own_dgt_32) rfl rfl) ?_
  show own_End p e below P (T84.setTop (mkF m 33 #[.val (.ref o0), .val (.ref o1)] [(.ref b84), (.ref b84), (.ref o0)]))
  refine own_callI X84 hx hZ (y := (⟨"java/util/IdentityHashMap", "<init>", "()V"⟩ : MethodName)) rfl hown (hw _ (List.mem_of_getElem? (i := 124) rfl)) (hw _ (List.mem_of_getElem? (i := 125) rfl)) (hw _ (List.mem_of_getElem? (i := 123) rfl)) (hw _ (List.mem_of_getElem? (i := 126) rfl)) (by decide) (own_mihm l Z a0 hw [] b84  h84 n0 (Nat.le_trans Z0 K84.1) A84 F_b84_table low_b84) 2 (by decide) (by decide) e84 (by decide) (by decide) (g := (mkF m 33 #[.val (.ref o0), .val (.ref o1)] [(.ref b84), (.ref b84), (.ref o0)])) rfl (by rw [hml']; rfl) (a := b84) (argsL := []) (rest := [(.ref b84), (.ref o0)]) rfl (lenOf own_pd_V_167 rfl) rfl (by show 2 * 0 + _ ≤ _; exact Nat.le_of_eq rfl) (hb hby own_dgt_33) (fun r115 T115 L115 X115 hQ115 => ?_)
  obtain ⟨b1_2_115, rfl, Nq115, Kq115, szq_b1_2_115, low_b1_2_115, f0_115, f1_115⟩ := hQ115
  have N115 := Fr.app N83 Nq115
  have G116 := (G86.ext E84)
  have ne117 : b119_6 ≠ b1_2_115 := Nat.ne_of_lt (Nat.lt_of_lt_of_le G116.lt szq_b1_2_115)
  have G118 := (G88.ext E84)
  have ne119 : b143_6 ≠ b1_2_115 := Nat.ne_of_lt (Nat.lt_of_lt_of_le G118.lt szq_b1_2_115)
  have G120 := (G90.ext E84)
  have ne121 : b169_6 ≠ b1_2_115 := Nat.ne_of_lt (Nat.lt_of_lt_of_le G120.lt szq_b1_2_115)
  have G122 := (G92.ext E84)
  have ne123 : b18_6 ≠ b1_2_115 := Nat.ne_of_lt (Nat.lt_of_lt_of_le G122.lt szq_b1_2_115)
  have G124 := (G94.ext E84)
  have ne125 : b197_6 ≠ b1_2_115 := Nat.ne_of_lt (Nat.lt_of_lt_of_le G124.lt szq_b1_2_115)
  have G126 := (G96.ext E84)
  have ne127 : b2 ≠ b1_2_115 := Nat.ne_of_lt (Nat.lt_of_lt_of_le G126.lt szq_b1_2_115)
  have G128 := (G98.ext E84)
  have ne129 : b29_6 ≠ b1_2_115 := Nat.ne_of_lt (Nat.lt_of_lt_of_le G128.lt szq_b1_2_115)
  have G130 := (G100.ext E84)
  have ne131 : b2_6 ≠ b1_2_115 := Nat.ne_of_lt (Nat.lt_of_lt_of_le G130.lt szq_b1_2_115)
  have G132 := (G102.ext E84)
  have ne133 : b43_6 ≠ b1_2_115 := Nat.ne_of_lt (Nat.lt_of_lt_of_le G132.lt szq_b1_2_115)
  have G134 := (G104.ext E84)
  have ne135 : b51 ≠ b1_2_115 := Nat.ne_of_lt (Nat.lt_of_lt_of_le G134.lt szq_b1_2_115)
  have G136 := (G106.ext E84)
  have ne137 : b59_6 ≠ b1_2_115 := Nat.ne_of_lt (Nat.lt_of_lt_of_le G136.lt szq_b1_2_115)
  have G138 := (G108.ext E84)
  have ne139 : b77_6 ≠ b1_2_115 := Nat.ne_of_lt (Nat.lt_of_lt_of_le G138.lt szq_b1_2_115)
  have ne140 : b84 ≠ b1_2_115 := Nat.ne_of_lt (Nat.lt_of_lt_of_le A84.lt szq_b1_2_115)
  have G141 := (G110.ext E84)
  have ne142 : b8_6 ≠ b1_2_115 := Nat.ne_of_lt (Nat.lt_of_lt_of_le G141.lt szq_b1_2_115)
  have G143 := (G112.ext E84)
  have ne144 : b97_6 ≠ b1_2_115 := Nat.ne_of_lt (Nat.lt_of_lt_of_le G143.lt szq_b1_2_115)
  have G145 := (G114.ext E84)
  have ne146 : o0 ≠ b1_2_115 := Nat.ne_of_lt (Nat.lt_of_lt_of_le G145.lt szq_b1_2_115)
  have sz_b1_2_115 := Nat.le_trans K84.1 szq_b1_2_115
  have K115 := Keep.trans K84 Kq115 (allS (Or.inr sz_b84) all0)
  show own_End p e below P (T115.setTop (mkF m 36 #[.val (.ref o0), .val (.ref o1)] [(.ref b84), (.ref o0)]))
  have G147 := (((((((((F_o0_touchedOn.ext E2).ext E4).keep Kq6 (ninS ne3 nin0)).other W50 (Or.inr (slot_ne (Or.inr (hw _ (List.mem_of_getElem? (i := 139) rfl))) (Or.inr (hw _ (List.mem_of_getElem? (i := 113) rfl))) (by decide) (t := (.object "java/util/Map")) (t' := (.object "com/example/tallywire/tallywire/rules/PathNode")) (by decide) (by decide)))).ext E51).keep Kq80 (ninS ne78 nin0)).other W83 (Or.inr (slot_ne (Or.inr (hw _ (List.mem_of_getElem? (i := 139) rfl))) (Or.inr (hw _ (List.mem_of_getElem? (i := 120) rfl))) (by decide) (t := (.object "java/util/Map")) (t' := (.object "java/util/Map")) (by decide) (by decide)))).ext E84).keep Kq115 (ninS ne113 nin0))
  have G148 := (G145.keep Kq115)
  obtain ⟨T149, h149, X149, e149, W149, st149⟩ := putF X115 hx hZ hown (host := "") (Or.inl (hw _ (List.mem_of_getElem? (i := 138) rfl))) Via.refl rfl G147 G148 (Or.inr ⟨(hw _ (List.mem_of_getElem? (i := 139) rfl)), rfl, hnm⟩) (hw _ (List.mem_of_getElem? (i := 1) rfl)) (ty := (.object "java/util/Map")) (by decide) rfl rfl (g := (mkF m 36 #[.val (.ref o0), .val (.ref o1)] [(.ref b84), (.ref o0)])) rfl rfl (hb hby own_dgt_36)
  have N149 := Fr.snoc X149 N115 low_o0
  have K149 := Keep.wr K115 W149 (Or.inl (List.mem_of_getElem? (i := 0) rfl))
  have F149 := G147.same W149
  refine own_st (fun _ => st149 _) ?_
  show own_End p e below P (T149.setTop (mkF m 39 #[.val (.ref o0), .val (.ref o1)] []))
  refine own_st (fun _ => XS.aloadN X149.here hx rfl (hb hby own_dgt_39) rfl rfl) ?_
  show own_End p e below P (T149.setTop (mkF m 40 #[.val (.ref o0), .val (.ref o1)] [(.ref o0)]))
  obtain ⟨T150, h150, X150, e150, E150, A150, D150, -, st150⟩ := newO X149 hx hZ hown (hw _ (List.mem_of_getElem? (i := 121) rfl)) (hw _ (List.mem_of_getElem? (i := 122) rfl)) (hw _ (List.mem_of_getElem? (i := 123) rfl)) e149 (g := (mkF m 40 #[.val (.ref o0), .val (.ref o1)] [(.ref o0)])) rfl (hb hby own_dgt_40) (by decide) (by decide)
  obtain ⟨b150, g150⟩ : ∃ z, z = h149.size := ⟨_, rfl⟩
  rw [← g150] at A150 D150 st150
  have G152 := ((G116.keep Kq115).wr W149)
  have ne151 : b119_6 ≠ b150 := Nat.ne_of_lt (Nat.lt_of_lt_of_le G152.lt (Nat.le_of_eq g150.symm))
  have G154 := ((G118.keep Kq115).wr W149)
  have ne153 : b143_6 ≠ b150 := Nat.ne_of_lt (Nat.lt_of_lt_of_le G154.lt (Nat.le_of_eq g150.symm))
  have G156 := ((G120.keep Kq115).wr W149)
  have ne155 : b169_6 ≠ b150 := Nat.ne_of_lt (Nat.lt_of_lt_of_le G156.lt (Nat.le_of_eq g150.symm))
  have G158 := ((G122.keep Kq115).wr W149)
  have ne157 : b18_6 ≠ b150 := Nat.ne_of_lt (Nat.lt_of_lt_of_le G158.lt (Nat.le_of_eq g150.symm))
  have G160 := ((G124.keep Kq115).wr W149)
  have ne159 : b197_6 ≠ b150 := Nat.ne_of_lt (Nat.lt_of_lt_of_le G160.lt (Nat.le_of_eq g150.symm))
  have G162 := (f1_115.wr W149)
  have ne161 : b1_2_115 ≠ b150 := Nat.ne_of_lt (Nat.lt_of_lt_of_le G162.lt (Nat.le_of_eq g150.symm))
  have G164 := ((G126.keep Kq115).wr W149)
  have ne163 : b2 ≠ b150 := Nat.ne_of_lt (Nat.lt_of_lt_of_le G164.lt (Nat.le_of_eq g150.symm))
  have G166 := ((G128.keep Kq115).wr W149)
  have ne165 : b29_6 ≠ b150 := Nat.ne_of_lt (Nat.lt_of_lt_of_le G166.lt (Nat.le_of_eq g150.symm))
  have G168 := ((G130.keep Kq115).wr W149)
  have ne167 : b2_6 ≠ b150 := Nat.ne_of_lt (Nat.lt_of_lt_of_le G168.lt (Nat.le_of_eq g150.symm))
  have G170 := ((G132.keep Kq115).wr W149)
  have ne169 : b43_6 ≠ b150 := Nat.ne_of_lt (Nat.lt_of_lt_of_le G170.lt (Nat.le_of_eq g150.symm))
  have G172 := ((G134.keep Kq115).wr W149)
  have ne171 : b51 ≠ b150 := Nat.ne_of_lt (Nat.lt_of_lt_of_le G172.lt (Nat.le_of_eq g150.symm))
  have G174 := ((G136.keep Kq115).wr W149)
  have ne173 : b59_6 ≠ b150 := Nat.ne_of_lt (Nat.lt_of_lt_of_le G174.lt (Nat.le_of_eq g150.symm))
  have G176 := ((G138.keep Kq115).wr W149)
  have ne175 : b77_6 ≠ b150 := Nat.ne_of_lt (Nat.lt_of_lt_of_le G176.lt (Nat.le_of_eq g150.symm))
  have G178 := (f0_115.wr W149)
  have ne177 : b84 ≠ b150 := Nat.ne_of_lt (Nat.lt_of_lt_of_le G178.lt (Nat.le_of_eq g150.symm))
  have G180 := ((G141.keep Kq115).wr W149)
  have ne179 : b8_6 ≠ b150 := Nat.ne_of_lt (Nat.lt_of_lt_of_le G180.lt (Nat.le_of_eq g150.symm))
  have G182 := ((G143.keep Kq115).wr W149)
  have ne181 : b97_6 ≠ b150 := Nat.ne_of_lt (Nat.lt_of_lt_of_le G182.lt (Nat.le_of_eq g150.symm))
  have G184 := (G148.wr W149)
  have ne183 : o0 ≠ b150 := Nat.ne_of_lt (Nat.lt_of_lt_of_le G184.lt (Nat.le_of_eq g150.symm))
  have low_b150 : n0 ≤ b150 := Nat.le_trans (Nat.le_trans Z0 K149.1) (Nat.le_of_eq g150.symm)
  have sz_b150 : h0.size ≤ b150 := Nat.le_trans K149.1 (Nat.le_of_eq g150.symm)
  have K150 := Keep.ext K149 E150
  have F_b150_table : Fld Z h150 b150 "java/util/IdentityHashMap" "table" "[Ljava/lang/Object;" .null := D150 (Or.inl (hw _ (List.mem_of_getElem? (i := 137) rfl))) (ty := (.array (.object "java/lang/Object"))) (by decide)
  refine own_st (fun _ => st150 _) ?_
  show own_End p e below P (T150.setTop (mkF m 43 #[.val (.ref o0), .val (.ref o1)] [(.ref b150), (.ref o0)]))
  refine own_st (fun _ => XS.dup X150.here hx rfl (hb hby own_dgt_43) rfl rfl) ?_
  show own_End p e below P (T150.setTop (mkF m 44 #[.val (.ref o0), .val (.ref o1)] [(.ref b150), (.ref b150), (.ref o0)]))
  refine own_callI X150 hx hZ (y := (⟨"java/util/IdentityHashMap", "<init>", "()V"⟩ : MethodName)) rfl hown (hw _ (List.mem_of_getElem? (i := 124) rfl)) (hw _ (List.mem_of_getElem? (i := 125) rfl)) (hw _ (List.mem_of_getElem? (i := 123) rfl)) (hw _ (List.mem_of_getElem? (i := 126) rfl)) (by decide) (own_mihm l Z a0 hw [] b150  h150 n0 (Nat.le_trans Z0 K150.1) A150 F_b150_table low_b150) 2 (by decide) (by decide) e150 (by decide) (by decide) (g := (mkF m 44 #[.val (.ref o0), .val (.ref o1)] [(.ref b150), (.ref b150), (.ref o0)])) rfl (by rw [hml']; rfl) (a := b150) (argsL := []) (rest := [(.ref b150), (.ref o0)]) rfl (lenOf own_pd_V_167 rfl) rfl (by show 2 * 0 + _ ≤ _; exact Nat.le_of_eq rfl) (hb hby own_dgt_44) (fun r185 T185 L185 X185 hQ185 => ?_)
  obtain ⟨b1_2_185, rfl, Nq185, Kq185, szq_b1_2_185, low_b1_2_185, f0_185, f1_185⟩ := hQ185
  have N185 := Fr.app N149 Nq185
  have G186 := (G152.ext E150)
  have ne187 : b119_6 ≠ b1_2_185 := Nat.ne_of_lt (Nat.lt_of_lt_of_le G186.lt szq_b1_2_185)
  have G188 := (G154.ext E150)
  have ne189 : b143_6 ≠ b1_2_185 := Nat.ne_of_lt (Nat.lt_of_lt_of_le G188.lt szq_b1_2_185)
  have ne190 : b150 ≠ b1_2_185 := Nat.ne_of_lt (Nat.lt_of_lt_of_le A150.lt szq_b1_2_185)
  have G191 := (G156.ext E150)
  have ne192 : b169_6 ≠ b1_2_185 := Nat.ne_of_lt (Nat.lt_of_lt_of_le G191.lt szq_b1_2_185)
  have G193 := (G158.ext E150)
  have ne194 : b18_6 ≠ b1_2_185 := Nat.ne_of_lt (Nat.lt_of_lt_of_le G193.lt szq_b1_2_185)
  have G195 := (G160.ext E150)
  have ne196 : b197_6 ≠ b1_2_185 := Nat.ne_of_lt (Nat.lt_of_lt_of_le G195.lt szq_b1_2_185)
  have G197 := (G162.ext E150)
  have ne198 : b1_2_115 ≠ b1_2_185 := Nat.ne_of_lt (Nat.lt_of_lt_of_le G197.lt szq_b1_2_185)
  have G199 := (G164.ext E150)
  have ne200 : b2 ≠ b1_2_185 := Nat.ne_of_lt (Nat.lt_of_lt_of_le G199.lt szq_b1_2_185)
  have G201 := (G166.ext E150)
  have ne202 : b29_6 ≠ b1_2_185 := Nat.ne_of_lt (Nat.lt_of_lt_of_le G201.lt szq_b1_2_185)
  have G203 := (G168.ext E150)
  have ne204 : b2_6 ≠ b1_2_185 := Nat.ne_of_lt (Nat.lt_of_lt_of_le G203.lt szq_b1_2_185)
  have G205 := (G170.ext E150)
  have ne206 : b43_6 ≠ b1_2_185 := Nat.ne_of_lt (Nat.lt_of_lt_of_le G205.lt szq_b1_2_185)
  have G207 := (G172.ext E150)
  have ne208 : b51 ≠ b1_2_185 := Nat.ne_of_lt (Nat.lt_of_lt_of_le G207.lt szq_b1_2_185)
  have G209 := (G174.ext E150)
  have ne210 : b59_6 ≠ b1_2_185 := Nat.ne_of_lt (Nat.lt_of_lt_of_le G209.lt szq_b1_2_185)
  have G211 := (G176.ext E150)
  have ne212 : b77_6 ≠ b1_2_185 := Nat.ne_of_lt (Nat.lt_of_lt_of_le G211.lt szq_b1_2_185)
  have G213 := (G178.ext E150)
  have ne214 : b84 ≠ b1_2_185 := Nat.ne_of_lt (Nat.lt_of_lt_of_le G213.lt szq_b1_2_185)
  have G215 := (G180.ext E150)
  have ne216 : b8_6 ≠ b1_2_185 := Nat.ne_of_lt (Nat.lt_of_lt_of_le G215.lt szq_b1_2_185)
  have G217 := (G182.ext E150)
  have ne218 : b97_6 ≠ b1_2_185 := Nat.ne_of_lt (Nat.lt_of_lt_of_le G217.lt szq_b1_2_185)
  have G219 := (G184.ext E150)
  have ne220 : o0 ≠ b1_2_185 := Nat.ne_of_lt (Nat.lt_of_lt_of_le G219.lt szq_b1_2_185)
  have sz_b1_2_185 := Nat.le_trans K150.1 szq_b1_2_185
  have K185 := Keep.trans K150 Kq185 (allS (Or.inr sz_b150) all0)
  show own_End p e below P (T185.setTop (mkF m 47 #[.val (.ref o0), .val (.ref o1)] [(.ref b150), (.ref o0)]))
  have G221 := ((((((((((((F_o0_removedOn.ext E2).ext E4).keep Kq6 (ninS ne3 nin0)).other W50 (Or.inr (slot_ne (Or.inr (hw _ (List.mem_of_getElem? (i := 141) rfl))) (Or.inr (hw _ (List.mem_of_getElem? (i := 113) rfl))) (by decide) (t := (.object "java/util/Map")) (t' := (.object "com/example/tallywire/tallywire/rules/PathNode")) (by decide) (by decide)))).ext E51).keep Kq80 (ninS ne78 nin0)).other W83 (Or.inr (slot_ne (Or.inr (hw _ (List.mem_of_getElem? (i := 141) rfl))) (Or.inr (hw _ (List.mem_of_getElem? (i := 120) rfl))) (by decide) (t := (.object "java/util/Map")) (t' := (.object "java/util/Map")) (by decide) (by decide)))).ext E84).keep Kq115 (ninS ne113 nin0)).other W149 (Or.inr (slot_ne (Or.inr (hw _ (List.mem_of_getElem? (i := 141) rfl))) (Or.inr (hw _ (List.mem_of_getElem? (i := 139) rfl))) (by decide) (t := (.object "java/util/Map")) (t' := (.object "java/util/Map")) (by decide) (by decide)))).ext E150).keep Kq185 (ninS ne183 nin0))
  have G222 := (G219.keep Kq185)
  obtain ⟨T223, h223, X223, e223, W223, st223⟩ := putF X185 hx hZ hown (host := "") (Or.inl (hw _ (List.mem_of_getElem? (i := 140) rfl))) Via.refl rfl G221 G222 (Or.inr ⟨(hw _ (List.mem_of_getElem? (i := 141) rfl)), rfl, hnm⟩) (hw _ (List.mem_of_getElem? (i := 1) rfl)) (ty := (.object "java/util/Map")) (by decide) rfl rfl (g := (mkF m 47 #[.val (.ref o0), .val (.ref o1)] [(.ref b150), (.ref o0)])) rfl rfl (hb hby own_dgt_47)
  have N223 := Fr.snoc X223 N185 low_o0
  have K223 := Keep.wr K185 W223 (Or.inl (List.mem_of_getElem? (i := 0) rfl))
  have F223 := G221.same W223
  refine own_st (fun _ => st223 _) ?_
  show own_End p e below P (T223.setTop (mkF m 50 #[.val (.ref o0), .val (.ref o1)] []))
  refine own_st (fun _ => XS.aloadN X223.here hx rfl (hb hby own_dgt_50) rfl rfl) ?_
  show own_End p e below P (T223.setTop (mkF m 51 #[.val (.ref o0), .val (.ref o1)] [(.ref o0)]))
  obtain ⟨T224, h224, X224, e224, E224, A224, D224, -, st224⟩ := newO X223 hx hZ hown (hw _ (List.mem_of_getElem? (i := 142) rfl)) (hw _ (List.mem_of_getElem? (i := 35) rfl)) (hw _ (List.mem_of_getElem? (i := 36) rfl)) e223 (g := (mkF m 51 #[.val (.ref o0), .val (.ref o1)] [(.ref o0)])) rfl (hb hby own_dgt_51) (by decide) (by decide)
  obtain ⟨b224, g224⟩ : ∃ z, z = h223.size := ⟨_, rfl⟩
  rw [← g224] at A224 D224 st224
  have G226 := ((G186.keep Kq185).wr W223)
  have ne225 : b119_6 ≠ b224 := Nat.ne_of_lt (Nat.lt_of_lt_of_le G226.lt (Nat.le_of_eq g224.symm))
  have G228 := ((G188.keep Kq185).wr W223)
  have ne227 : b143_6 ≠ b224 := Nat.ne_of_lt (Nat.lt_of_lt_of_le G228.lt (Nat.le_of_eq g224.symm))
  have G230 := (f0_185.wr W223)
  have ne229 : b150 ≠ b224 := Nat.ne_of_lt (Nat.lt_of_lt_of_le G230.lt (Nat.le_of_eq g224.symm))
  have G232 := ((G191.keep Kq185).wr W223)
  have ne231 : b169_6 ≠ b224 := Nat.ne_of_lt (Nat.lt_of_lt_of_le G232.lt (Nat.le_of_eq g224.symm))
  have G234 := ((G193.keep Kq185).wr W223)
  have ne233 : b18_6 ≠ b224 := Nat.ne_of_lt (Nat.lt_of_lt_of_le G234.lt (Nat.le_of_eq g224.symm))
  have G236 := ((G195.keep Kq185).wr W223)
  have ne235 : b197_6 ≠ b224 := Nat.ne_of_lt (Nat.lt_of_lt_of_le G236.lt (Nat.le_of_eq g224.symm))
  have G238 := ((G197.keep Kq185).wr W223)
  have ne237 : b1_2_115 ≠ b224 := Nat.ne_of_lt (Nat.lt_of_lt_of_le G238.lt (Nat.le_of_eq g224.symm))
  have G240 := (f1_185.wr W223)
  have ne239 : b1_2_185 ≠ b224 := Nat.ne_of_lt (Nat.lt_of_lt_of_le G240.lt (Nat.le_of_eq g224.symm))
  have G242 := ((G199.keep Kq185).wr W223)
  have ne241 : b2 ≠ b224 := Nat.ne_of_lt (Nat.lt_of_lt_of_le G242.lt (Nat.le_of_eq g224.symm))
  have G244 := ((G201.keep Kq185).wr W223)
  have ne243 : b29_6 ≠ b224 := Nat.ne_of_lt (Nat.lt_of_lt_of_le G244.lt (Nat.le_of_eq g224.symm))
  have G246 := ((G203.keep Kq185).wr W223)
  have ne245 : b2_6 ≠ b224 := Nat.ne_of_lt (Nat.lt_of_lt_of_le G246.lt (Nat.le_of_eq g224.symm))
  have G248 := ((G205.keep Kq185).wr W223)
  have ne247 : b43_6 ≠ b224 := Nat.ne_of_lt (Nat.lt_of_lt_of_le G248.lt (Nat.le_of_eq g224.symm))
  have G250 := ((G207.keep Kq185).wr W223)
  have ne249 : b51 ≠ b224 := Nat.ne_of_lt (Nat.lt_of_lt_of_le G250.lt (Nat.le_of_eq g224.symm))
  have G252 := ((G209.keep Kq185).wr W223)
  have ne251 : b59_6 ≠ b224 := Nat.ne_of_lt (Nat.lt_of_lt_of_le G252.lt (Nat.le_of_eq g224.symm))
  have G254 := ((G211.keep Kq185).wr W223)
  have ne253 : b77_6 ≠ b224 := Nat.ne_of_lt (Nat.lt_of_lt_of_le G254.lt (Nat.le_of_eq g224.symm))
  have G256 := ((G213.keep Kq185).wr W223)
  have ne255 : b84 ≠ b224 := Nat.ne_of_lt (Nat.lt_of_lt_of_le G256.lt (Nat.le_of_eq g224.symm))
  have G258 := ((G215.keep Kq185).wr W223)
  have ne257 : b8_6 ≠ b224 := Nat.ne_of_lt (Nat.lt_of_lt_of_le G258.lt (Nat.le_of_eq g224.symm))
  have G260 := ((G217.keep Kq185).wr W223)
  have ne259 : b97_6 ≠ b224 := Nat.ne_of_lt (Nat.lt_of_lt_of_le G260.lt (Nat.le_of_eq g224.symm))
  have G262 := (G222.wr W223)
  have ne261 : o0 ≠ b224 := Nat.ne_of_lt (Nat.lt_of_lt_of_le G262.lt (Nat.le_of_eq g224.symm))
  have low_b224 : n0 ≤ b224 := Nat.le_trans (Nat.le_trans Z0 K223.1) (Nat.le_of_eq g224.symm)
  have sz_b224 : h0.size ≤ b224 := Nat.le_trans K223.1 (Nat.le_of_eq g224.symm)
  have K224 := Keep.ext K223 E224
  have F_b224_loadFactor : Fld Z h224 b224 "java/util/HashMap" "loadFactor" "F" (defaultValue .float) := D224 (Or.inr (hw _ (List.mem_of_getElem? (i := 55) rfl))) (ty := .float) (by decide)
  have F_b224_putMode : Fld Z h224 b224 "java/util/LinkedHashMap" "putMode" "I" (.int (0 : Int32)) := D224 (Or.inl (hw _ (List.mem_of_getElem? (i := 57) rfl))) (ty := .int) (by decide)
  have F_b224_accessOrder : Fld Z h224 b224 "java/util/LinkedHashMap" "accessOrder" "Z" (.int (0 : Int32)) := D224 (Or.inr (hw _ (List.mem_of_getElem? (i := 59) rfl))) (ty := .boolean) (by decide)
  refine own_st (fun _ => st224 _) ?_
  show own_End p e below P (T224.setTop (mkF m 54 #[.val (.ref o0), .val (.ref o1)] [(.ref b224), (.ref o0)]))
  refine own_st (fun _ => XS.dup X224.here hx rfl (hb hby own_dgt_54) rfl rfl) ?_
  show own_End p e below P (T224.setTop (mkF m 55 #[.val (.ref o0), .val (.ref o1)] [(.ref b224), (.ref b224), (.ref o0)]))
  refine own_callI X224 hx hZ (y := (⟨"java/util/LinkedHashMap", "<init>", "()V"⟩ : MethodName)) rfl hown (hw _ (List.mem_of_getElem? (i := 143) rfl)) (hw _ (List.mem_of_getElem? (i := 38) rfl)) (hw _ (List.mem_of_getElem? (i := 36) rfl)) (hw _ (List.mem_of_getElem? (i := 39) rfl)) (by decide) (own_mlhm l Z a0 hw [] b224  h224 n0 (Nat.le_trans Z0 K224.1) A224 F_b224_loadFactor F_b224_putMode F_b224_accessOrder low_b224) 2 (by decide) (by decide) e224 (by decide) (by decide) (g := (mkF m 55 #[.val (.ref o0), .val (.ref o1)] [(.ref b224), (.ref b224), (.ref o0)])) rfl (by rw [hml']; rfl) (a := b224) (argsL := []) (rest := [(.ref b224), (.ref o0)]) rfl (lenOf own_pd_V_167 rfl) rfl (by show 2 * 0 + _ ≤ _; exact Nat.le_of_eq rfl) (hb hby own_dgt_55) (fun r263 T263 L263 X263 hQ263 => ?_)
  obtain ⟨rfl, Nq263, Kq263, f0_263⟩ := hQ263
  have N263 := Fr.app N223 Nq263
  have K263 := Keep.trans K224 Kq263 (allS (Or.inr sz_b224) all0)
  show own_End p e below P (T263.setTop (mkF m 58 #[.val (.ref o0), .val (.ref o1)] [(.ref b224), (.ref o0)]))
  have G264 := (((((((((((((((F_o0_named.ext E2).ext E4).keep Kq6 (ninS ne3 nin0)).other W50 (Or.inr (slot_ne (Or.inr (hw _ (List.mem_of_getElem? (i := 145) rfl))) (Or.inr (hw _ (List.mem_of_getElem? (i := 113) rfl))) (by decide) (t := (.object "java/util/Map")) (t' := (.object "com/example/tallywire/tallywire/rules/PathNode")) (by decide) (by decide)))).ext E51).keep Kq80 (ninS ne78 nin0)).other W83 (Or.inr (slot_ne (Or.inr (hw _ (List.mem_of_getElem? (i := 145) rfl))) (Or.inr (hw _ (List.mem_of_getElem? (i := 120) rfl))) (by decide) (t := (.object "java/util/Map")) (t' := (.object "java/util/Map")) (by decide) (by decide)))).ext E84).keep Kq115 (ninS ne113 nin0)).other W149 (Or.inr (slot_ne (Or.inr (hw _ (List.mem_of_getElem? (i := 145) rfl))) (Or.inr (hw _ (List.mem_of_getElem? (i := 139) rfl))) (by decide) (t := (.object "java/util/Map")) (t' := (.object "java/util/Map")) (by decide) (by decide)))).ext E150).keep Kq185 (ninS ne183 nin0)).other W223 (Or.inr (slot_ne (Or.inr (hw _ (List.mem_of_getElem? (i := 145) rfl))) (Or.inr (hw _ (List.mem_of_getElem? (i := 141) rfl))) (by decide) (t := (.object "java/util/Map")) (t' := (.object "java/util/Map")) (by decide) (by decide)))).ext E224).keep Kq263 (ninS ne261 nin0))
  have G265 := ((G262.ext E224).keep Kq263)
  obtain ⟨T266, h266, X266, e266, W266, st266⟩ := putF X263 hx hZ hown (host := "") (Or.inl (hw _ (List.mem_of_getElem? (i := 144) rfl))) Via.refl rfl G264 G265 (Or.inr ⟨(hw _ (List.mem_of_getElem? (i := 145) rfl)), rfl, hnm⟩) (hw _ (List.mem_of_getElem? (i := 1) rfl)) (ty := (.object "java/util/Map")) (by decide) rfl rfl (g := (mkF m 58 #[.val (.ref o0), .val (.ref o1)] [(.ref b224), (.ref o0)])) rfl rfl (hb hby own_dgt_58)
  have N266 := Fr.snoc X266 N263 low_o0
  have K266 := Keep.wr K263 W266 (Or.inl (List.mem_of_getElem? (i := 0) rfl))
  have F266 := G264.same W266
  refine own_st (fun _ => st266 _) ?_
  show own_End p e below P (T266.setTop (mkF m 61 #[.val (.ref o0), .val (.ref o1)] []))
  refine own_st (fun _ => XS.aloadN X266.here hx rfl (hb hby own_dgt_61) rfl rfl) ?_
  show own_End p e below P (T266.setTop (mkF m 62 #[.val (.ref o0), .val (.ref o1)] [(.ref o0)]))
  refine own_st (fun _ => XS.aloadN X266.here hx rfl (hb hby own_dgt_62) rfl rfl) ?_
  show own_End p e below P (T266.setTop (mkF m 63 #[.val (.ref o0), .val (.ref o1)] [(.ref o1), (.ref o0)]))
  have G267 := ((((((((((((((((F_o0_lines.ext E2).ext E4).keep Kq6 (ninS ne3 nin0)).other W50 (Or.inr (slot_ne (Or.inr (hw _ (List.mem_of_getElem? (i := 147) rfl))) (Or.inr (hw _ (List.mem_of_getElem? (i := 113) rfl))) (by decide) (t := (.object "com/example/tallywire/tallywire/rules/LineReader")) (t' := (.object "com/example/tallywire/tallywire/rules/PathNode")) (by decide) (by decide)))).ext E51).keep Kq80 (ninS ne78 nin0)).other W83 (Or.inr (slot_ne (Or.inr (hw _ (List.mem_of_getElem? (i := 147) rfl))) (Or.inr (hw _ (List.mem_of_getElem? (i := 120) rfl))) (by decide) (t := (.object "com/example/tallywire/tallywire/rules/LineReader")) (t' := (.object "java/util/Map")) (by decide) (by decide)))).ext E84).keep Kq115 (ninS ne113 nin0)).other W149 (Or.inr (slot_ne (Or.inr (hw _ (List.mem_of_getElem? (i := 147) rfl))) (Or.inr (hw _ (List.mem_of_getElem? (i := 139) rfl))) (by decide) (t := (.object "com/example/tallywire/tallywire/rules/LineReader")) (t' := (.object "java/util/Map")) (by decide) (by decide)))).ext E150).keep Kq185 (ninS ne183 nin0)).other W223 (Or.inr (slot_ne (Or.inr (hw _ (List.mem_of_getElem? (i := 147) rfl))) (Or.inr (hw _ (List.mem_of_getElem? (i := 141) rfl))) (by decide) (t := (.object "com/example/tallywire/tallywire/rules/LineReader")) (t' := (.object "java/util/Map")) (by decide) (by decide)))).ext E224).keep Kq263 (ninS ne261 nin0)).other W266 (Or.inr (slot_ne (Or.inr (hw _ (List.mem_of_getElem? (i := 147) rfl))) (Or.inr (hw _ (List.mem_of_getElem? (i := 145) rfl))) (by decide) (t := (.object "com/example/tallywire/tallywire/rules/LineReader")) (t' := (.object "java/util/Map")) (by decide) (by decide))))
  have G268 := (G265.wr W266)
  obtain ⟨T269, h269, X269, e269, W269, st269⟩ := putF X266 hx hZ hown (host := "") (Or.inl (hw _ (List.mem_of_getElem? (i := 146) rfl))) Via.refl e266 G267 G268 (Or.inr ⟨(hw _ (List.mem_of_getElem? (i := 147) rfl)), rfl, hnm⟩) (hw _ (List.mem_of_getElem? (i := 1) rfl)) (ty := (.object "com/example/tallywire/tallywire/rules/LineReader")) (by decide) rfl rfl (g := (mkF m 63 #[.val (.ref o0), .val (.ref o1)] [(.ref o1), (.ref o0)])) rfl rfl (hb hby own_dgt_63)
  have N269 := Fr.snoc X269 N266 low_o0
  have K269 := Keep.wr K266 W269 (Or.inl (List.mem_of_getElem? (i := 0) rfl))
  have F269 := G267.same W269
  refine own_st (fun _ => st269 _) ?_
  show own_End p e below P (T269.setTop (mkF m 66 #[.val (.ref o0), .val (.ref o1)] []))
  have G270 := (Nat.le_trans (Nat.le_trans (Nat.le_trans (Nat.le_trans (Nat.le_trans (Nat.le_trans (Nat.le_trans (Nat.le_trans (Nat.le_trans (Nat.le_trans (Nat.le_trans (Nat.le_trans (Nat.le_trans (Nat.le_trans (Nat.le_trans hk4 Kq6.1) (Keep.of_wr W50).1) E51.1) Kq80.1) (Keep.of_wr W83).1) E84.1) Kq115.1) (Keep.of_wr W149).1) E150.1) Kq185.1) (Keep.of_wr W223).1) E224.1) Kq263.1) (Keep.of_wr W266).1) (Keep.of_wr W269).1)
  have G271 := (G268.wr W269)
  have G272 := (((((((((((((F50.ext E51).keep Kq80 (ninS ne78 nin0)).other W83 (Or.inr (slot_ne (Or.inr (hw _ (List.mem_of_getElem? (i := 113) rfl))) (Or.inr (hw _ (List.mem_of_getElem? (i := 120) rfl))) (by decide) (t := (.object "com/example/tallywire/tallywire/rules/PathNode")) (t' := (.object "java/util/Map")) (by decide) (by decide)))).ext E84).keep Kq115 (ninS ne113 nin0)).other W149 (Or.inr (slot_ne (Or.inr (hw _ (List.mem_of_getElem? (i := 113) rfl))) (Or.inr (hw _ (List.mem_of_getElem? (i := 139) rfl))) (by decide) (t := (.object "com/example/tallywire/tallywire/rules/PathNode")) (t' := (.object "java/util/Map")) (by decide) (by decide)))).ext E150).keep Kq185 (ninS ne183 nin0)).other W223 (Or.inr (slot_ne (Or.inr (hw _ (List.mem_of_getElem? (i := 113) rfl))) (Or.inr (hw _ (List.mem_of_getElem? (i := 141) rfl))) (by decide) (t := (.object "com/example/tallywire/tallywire/rules/PathNode")) (t' := (.object "java/util/Map")) (by decide) (by decide)))).ext E224).keep Kq263 (ninS ne261 nin0)).other W266 (Or.inr (slot_ne (Or.inr (hw _ (List.mem_of_getElem? (i := 113) rfl))) (Or.inr (hw _ (List.mem_of_getElem? (i := 145) rfl))) (by decide) (t := (.object "com/example/tallywire/tallywire/rules/PathNode")) (t' := (.object "java/util/Map")) (by decide) (by decide)))).other W269 (Or.inr (slot_ne (Or.inr (hw _ (List.mem_of_getElem? (i := 113) rfl))) (Or.inr (hw _ (List.mem_of_getElem? (i := 147) rfl))) (by decide) (t := (.object "com/example/tallywire/tallywire/rules/PathNode")) (t' := (.object "com/example/tallywire/tallywire/rules/LineReader")) (by decide) (by decide))))
  have G273 := (((((((((((((((((F_o0_facts.ext E2).ext E4).keep Kq6 (ninS ne3 nin0)).other W50 (Or.inr (slot_ne (Or.inl (hw _ (List.mem_of_getElem? (i := 157) rfl))) (Or.inr (hw _ (List.mem_of_getElem? (i := 113) rfl))) (by decide) (t := .int) (t' := (.object "com/example/tallywire/tallywire/rules/PathNode")) (by decide) (by decide)))).ext E51).keep Kq80 (ninS ne78 nin0)).other W83 (Or.inr (slot_ne (Or.inl (hw _ (List.mem_of_getElem? (i := 157) rfl))) (Or.inr (hw _ (List.mem_of_getElem? (i := 120) rfl))) (by decide) (t := .int) (t' := (.object "java/util/Map")) (by decide) (by decide)))).ext E84).keep Kq115 (ninS ne113 nin0)).other W149 (Or.inr (slot_ne (Or.inl (hw _ (List.mem_of_getElem? (i := 157) rfl))) (Or.inr (hw _ (List.mem_of_getElem? (i := 139) rfl))) (by decide) (t := .int) (t' := (.object "java/util/Map")) (by decide) (by decide)))).ext E150).keep Kq185 (ninS ne183 nin0)).other W223 (Or.inr (slot_ne (Or.inl (hw _ (List.mem_of_getElem? (i := 157) rfl))) (Or.inr (hw _ (List.mem_of_getElem? (i := 141) rfl))) (by decide) (t := .int) (t' := (.object "java/util/Map")) (by decide) (by decide)))).ext E224).keep Kq263 (ninS ne261 nin0)).other W266 (Or.inr (slot_ne (Or.inl (hw _ (List.mem_of_getElem? (i := 157) rfl))) (Or.inr (hw _ (List.mem_of_getElem? (i := 145) rfl))) (by decide) (t := .int) (t' := (.object "java/util/Map")) (by decide) (by decide)))).other W269 (Or.inr (slot_ne (Or.inl (hw _ (List.mem_of_getElem? (i := 157) rfl))) (Or.inr (hw _ (List.mem_of_getElem? (i := 147) rfl))) (by decide) (t := .int) (t' := (.object "com/example/tallywire/tallywire/rules/LineReader")) (by decide) (by decide))))
  have G274 := (((((((((((((((((F_o0_tallies.ext E2).ext E4).keep Kq6 (ninS ne3 nin0)).other W50 (Or.inr (slot_ne (Or.inl (hw _ (List.mem_of_getElem? (i := 159) rfl))) (Or.inr (hw _ (List.mem_of_getElem? (i := 113) rfl))) (by decide) (t := .int) (t' := (.object "com/example/tallywire/tallywire/rules/PathNode")) (by decide) (by decide)))).ext E51).keep Kq80 (ninS ne78 nin0)).other W83 (Or.inr (slot_ne (Or.inl (hw _ (List.mem_of_getElem? (i := 159) rfl))) (Or.inr (hw _ (List.mem_of_getElem? (i := 120) rfl))) (by decide) (t := .int) (t' := (.object "java/util/Map")) (by decide) (by decide)))).ext E84).keep Kq115 (ninS ne113 nin0)).other W149 (Or.inr (slot_ne (Or.inl (hw _ (List.mem_of_getElem? (i := 159) rfl))) (Or.inr (hw _ (List.mem_of_getElem? (i := 139) rfl))) (by decide) (t := .int) (t' := (.object "java/util/Map")) (by decide) (by decide)))).ext E150).keep Kq185 (ninS ne183 nin0)).other W223 (Or.inr (slot_ne (Or.inl (hw _ (List.mem_of_getElem? (i := 159) rfl))) (Or.inr (hw _ (List.mem_of_getElem? (i := 141) rfl))) (by decide) (t := .int) (t' := (.object "java/util/Map")) (by decide) (by decide)))).ext E224).keep Kq263 (ninS ne261 nin0)).other W266 (Or.inr (slot_ne (Or.inl (hw _ (List.mem_of_getElem? (i := 159) rfl))) (Or.inr (hw _ (List.mem_of_getElem? (i := 145) rfl))) (by decide) (t := .int) (t' := (.object "java/util/Map")) (by decide) (by decide)))).other W269 (Or.inr (slot_ne (Or.inl (hw _ (List.mem_of_getElem? (i := 159) rfl))) (Or.inr (hw _ (List.mem_of_getElem? (i := 147) rfl))) (by decide) (t := .int) (t' := (.object "com/example/tallywire/tallywire/rules/LineReader")) (by decide) (by decide))))
  have hfin : ((fun (v : Option Value) (h : Heap) (L : List Loc) => ∃ (b2 : Addr), v = none ∧ Fr n0 L ∧ Keep h0 h [o0] ∧ h0.size ≤ b2 ∧ n0 ≤ b2 ∧ Exa Z h o0 "com/example/tallywire/tallywire/rules/GuidelineTree" ∧ Fld Z h o0 "com/example/tallywire/tallywire/rules/GuidelineTree" "root" "Lcom/example/tallywire/tallywire/rules/PathNode;" (.ref b2) ∧ Fld Z h o0 "com/example/tallywire/tallywire/rules/GuidelineTree" "facts" "I" (.int (0 : Int32)) ∧ Fld Z h o0 "com/example/tallywire/tallywire/rules/GuidelineTree" "tallies" "I" (.int (0 : Int32)))) none h269 _ := ⟨b2, rfl, N269, K269, sz_b2, low_b2, G271, G272, G273, G274⟩
  refine own_retVW X269 hS G270 e269 hx hlk hP hrt (hb hby own_dgt_66) (by decide) (by decide) ?_
  rw [e269]; exact hfin
theorem own_dof_0 : decode jdk_96_method_17_code 0 = .ok (.getstatic 9, 3) := by decide +kernel
theorem own_dof_3 : decode jdk_96_method_17_code 3 = .ok (.areturn, 1) := by decide +kernel
theorem own_efof (m : MethodId)  : entryFrame m #[] 0 = mkF m 0 #[] [] := by first | (simp [entryFrame, mkF, argsToLocals, Value.category]; done) | rfl
theorem own_pn_java_util_Set : plainName "java/util/Set" = true := by first | (simp [plainName, overriddenIn]; done) | decide +kernel
set_option maxRecDepth 65536 in
set_option maxHeartbeats 40000000 in
theorem own_mof (l : Launch) (Z : State) (a0 : Array Value) (hw : ∀ d ∈ tables_1, d.before a0 Z = true) (ws : List Jvm.Cond)  (s_ImmutableCollections_EMPTY_SET : Addr) (h0 : Heap) (n0 : Nat) (Z0 : n0 ≤ h0.size) (S_ImmutableCollections_EMPTY_SET : Sta Z h0 "java/util/ImmutableCollections" "EMPTY_SET" "Ljava/util/ImmutableCollections$SetN;" (.ref s_ImmutableCollections_EMPTY_SET)) :
    own_Met l Z (⟨"java/util/Set", "of", "()Ljava/util/Set;"⟩ : MethodName) jdk_96_method_17_code 0 (some (.object "java/util/Set")) ws ({ frames := 0, cells := 0, slots := 0, locals := 0 } : Room) #[] h0 (fun (v : Option Value) (h : Heap) (L : List Loc) => v = some (.ref s_ImmutableCollections_EMPTY_SET) ∧ Fr n0 L ∧ h = h0) := by
  refine own_enter (plainFor_of_name own_pn_java_util_Set) ?_
  intro p e s m below meth c s₁ P hx hby hml hrt hlk hown hnm hZ X0 e0 hP
  have N0 := Fr.nil n0
  have K0 := Keep.refl h0 []
  have hml' : c.maxLocals = 0 := hml
  refine own_cast (own_efof m ) ?_
  show own_End p e below P (s₁.setTop (mkF m 0 #[] []))
  obtain ⟨T1, X1, e1, st1⟩ := getS2 X0 hx hZ hown (host := "") (Or.inl (hw _ (List.mem_of_getElem? (i := 164) rfl))) Via.refl e0 S_ImmutableCollections_EMPTY_SET (g := (mkF m 0 #[] [])) rfl (hb hby own_dof_0)
  refine own_st (fun _ => st1 _) ?_
  show own_End p e below P (T1.setTop (mkF m 3 #[] [(.ref s_ImmutableCollections_EMPTY_SET)]))
  exact own_retR X1 hx hlk hP rfl rfl hrt (hb hby own_dof_3) (by decide) (by decide) ⟨rfl, N0, e1⟩
theorem own_dcopy_0 : decode jdk_96_method_29_code 0 = .ok (.aload_n 0, 1) := by decide +kernel
theorem own_dcopy_1 : decode jdk_96_method_29_code 1 = .ok (.instanceof 31, 3) := by decide +kernel
theorem own_dcopy_4 : decode jdk_96_method_29_code 4 = .ok (.ifCond .eq 8, 3) := by decide +kernel
theorem own_dcopy_7 : decode jdk_96_method_29_code 7 = .ok (.aload_n 0, 1) := by decide +kernel
theorem own_dcopy_8 : decode jdk_96_method_29_code 8 = .ok (.checkcast 33, 3) := by decide +kernel
theorem own_dcopy_11 : decode jdk_96_method_29_code 11 = .ok (.areturn, 1) := by decide +kernel
theorem own_efcopy (m : MethodId) (o0 : Addr) : entryFrame m #[(.ref o0)] 1 = mkF m 0 #[.val (.ref o0)] [] := by first | (simp [entryFrame, mkF, argsToLocals, Value.category]; done) | rfl
set_option maxRecDepth 65536 in
set_option maxHeartbeats 40000000 in
theorem own_mcopy (l : Launch) (Z : State) (a0 : Array Value) (hw : ∀ d ∈ tables_1, d.before a0 Z = true) (ws : List Jvm.Cond) (o0 : Addr)  (h0 : Heap) (n0 : Nat) (Z0 : n0 ≤ h0.size) (E_o0 : Exa Z h0 o0 "java/util/ImmutableCollections$SetN") :
    own_Met l Z (⟨"java/util/Set", "copyOf", "(Ljava/util/Collection;)Ljava/util/Set;"⟩ : MethodName) jdk_96_method_29_code 1 (some (.object "java/util/Set")) ws ({ frames := 0, cells := 0, slots := 0, locals := 0 } : Room) #[(.ref o0)] h0 (fun (v : Option Value) (h : Heap) (L : List Loc) => v = some (.ref o0) ∧ Fr n0 L ∧ h = h0) := by
  refine own_enter (plainFor_of_name own_pn_java_util_Set) ?_
  intro p e s m below meth c s₁ P hx hby hml hrt hlk hown hnm hZ X0 e0 hP
  have N0 := Fr.nil n0
  have K0 := Keep.refl h0 []
  have hml' : c.maxLocals = 1 := hml
  refine own_cast (own_efcopy m o0) ?_
  show own_End p e below P (s₁.setTop (mkF m 0 #[.val (.ref o0)] []))
  refine own_st (fun _ => XS.aloadN X0.here hx rfl (hb hby own_dcopy_0) rfl rfl) ?_
  show own_End p e below P (s₁.setTop (mkF m 1 #[.val (.ref o0)] [(.ref o0)]))
  obtain ⟨T1, X1, e1, st1⟩ := instY X0 hx hZ hown (hw _ (List.mem_of_getElem? (i := 178) rfl)) e0 (Ins.of_exa E_o0 (hw _ (List.mem_of_getElem? (i := 179) rfl))) (g := (mkF m 1 #[.val (.ref o0)] [(.ref o0)])) rfl rfl (hb hby own_dcopy_1)
  refine own_st (fun _ => st1 _) ?_
  show own_End p e below P (T1.setTop (mkF m 4 #[.val (.ref o0)] [(.int (1 : Int32))]))
  refine own_st (fun _ => XS.ifNo X1.here hx rfl (hb hby own_dcopy_4) rfl ((if0 _ _).trans (feq (by decide : ¬ ((1 : Int32) = (0 : Int32)))).1)) ?_
  show own_End p e below P (T1.setTop (mkF m 7 #[.val (.ref o0)] []))
  refine own_st (fun _ => XS.aloadN X1.here hx rfl (hb hby own_dcopy_7) rfl rfl) ?_
  show own_End p e below P (T1.setTop (mkF m 8 #[.val (.ref o0)] [(.ref o0)]))
  obtain ⟨T2, X2, e2, st2⟩ := castY X1 hx hZ hown (hw _ (List.mem_of_getElem? (i := 180) rfl)) e1 (Ins.of_exa E_o0 (hw _ (List.mem_of_getElem? (i := 181) rfl))) (g := (mkF m 8 #[.val (.ref o0)] [(.ref o0)])) rfl rfl (hb hby own_dcopy_8)
  refine own_st (fun _ => st2 _) ?_
  show own_End p e below P (T2.setTop (mkF m 11 #[.val (.ref o0)] [(.ref o0)]))
  exact own_retR X2 hx hlk hP rfl rfl hrt (hb hby own_dcopy_11) (by decide) (by decide) ⟨rfl, N0, e2⟩
theorem own_dly_0 : decode prog_140_method_1_code 0 = .ok (.aload_n 0, 1) := by decide +kernel
theorem own_dly_1 : decode prog_140_method_1_code 1 = .ok (.invokespecial 1, 3) := by decide +kernel
theorem own_dly_4 : decode prog_140_method_1_code 4 = .ok (.aload 4, 2) := by decide +kernel
theorem own_dly_6 : decode prog_140_method_1_code 6 = .ok (.invokestatic 7, 3) := by decide +kernel
theorem own_pd_Ljava_util_Collection__Ljava_util_Set_612 : parseMethodDescriptor "(Ljava/util/Collection;)Ljava/util/Set;" = some ⟨[(.object "java/util/Collection")], some (.object "java/util/Set")⟩ := by decide +kernel
theorem own_dly_9 : decode prog_140_method_1_code 9 = .ok (.astore 4, 2) := by decide +kernel
theorem own_dly_11 : decode prog_140_method_1_code 11 = .ok (.aload_n 0, 1) := by decide +kernel
theorem own_dly_12 : decode prog_140_method_1_code 12 = .ok (.aload_n 1, 1) := by decide +kernel
theorem own_dly_13 : decode prog_140_method_1_code 13 = .ok (.putfield 13, 3) := by decide +kernel
theorem own_dly_16 : decode prog_140_method_1_code 16 = .ok (.aload_n 0, 1) := by decide +kernel
theorem own_dly_17 : decode prog_140_method_1_code 17 = .ok (.iload_n 2, 1) := by decide +kernel
theorem own_dly_18 : decode prog_140_method_1_code 18 = .ok (.putfield 19, 3) := by decide +kernel
theorem own_dly_21 : decode prog_140_method_1_code 21 = .ok (.aload_n 0, 1) := by decide +kernel
theorem own_dly_22 : decode prog_140_method_1_code 22 = .ok (.iload_n 3, 1) := by decide +kernel
theorem own_dly_23 : decode prog_140_method_1_code 23 = .ok (.putfield 23, 3) := by decide +kernel
theorem own_dly_26 : decode prog_140_method_1_code 26 = .ok (.aload_n 0, 1) := by decide +kernel
theorem own_dly_27 : decode prog_140_method_1_code 27 = .ok (.aload 4, 2) := by decide +kernel
theorem own_dly_29 : decode prog_140_method_1_code 29 = .ok (.putfield 26, 3) := by decide +kernel
theorem own_dly_32 : decode prog_140_method_1_code 32 = .ok (.return_, 1) := by decide +kernel
theorem own_efly (m : MethodId) (o0 : Addr) (o1 : Addr) (p2 : Int32) (p3 : Int32) (o4 : Addr) : entryFrame m #[(.ref o0), (.ref o1), (.int p2), (.int p3), (.ref o4)] 5 = mkF m 0 #[.val (.ref o0), .val (.ref o1), .val (.int p2), .val (.int p3), .val (.ref o4)] [] := by first | (simp [entryFrame, mkF, argsToLocals, Value.category]; done) | rfl
theorem own_pn_com_example_tallywire_tallywire_rules_Layer : plainName "com/example/tallywire/tallywire/rules/Layer" = true := by first | (simp [plainName, overriddenIn]; done) | decide +kernel
set_option maxRecDepth 65536 in
set_option maxHeartbeats 40000000 in
theorem own_mly (l : Launch) (Z : State) (a0 : Array Value) (hw : ∀ d ∈ tables_1, d.before a0 Z = true) (ws : List Jvm.Cond) (o0 : Addr) (o1 : Addr) (p2 : Int32) (p3 : Int32) (o4 : Addr)  (h0 : Heap) (n0 : Nat) (Z0 : n0 ≤ h0.size) (E_o0 : Exa Z h0 o0 "com/example/tallywire/tallywire/rules/Layer") (E_o4 : Exa Z h0 o4 "java/util/ImmutableCollections$SetN") (F_o0_root : Fld Z h0 o0 "com/example/tallywire/tallywire/rules/Layer" "root" "Lcom/example/tallywire/tallywire/rules/PathNode;" .null) (F_o0_facts : Fld Z h0 o0 "com/example/tallywire/tallywire/rules/Layer" "facts" "I" (.int (0 : Int32))) (F_o0_tallies : Fld Z h0 o0 "com/example/tallywire/tallywire/rules/Layer" "tallies" "I" (.int (0 : Int32))) (F_o0_off : Fld Z h0 o0 "com/example/tallywire/tallywire/rules/Layer" "off" "Ljava/util/Set;" .null) (low_o0 : n0 ≤ o0) :
    own_Met l Z (⟨"com/example/tallywire/tallywire/rules/Layer", "<init>", "(Lcom/example/tallywire/tallywire/rules/PathNode;IILjava/util/Set;)V"⟩ : MethodName) prog_140_method_1_code 5 none ws ({ frames := 2, cells := 0, slots := 0, locals := 24 } : Room) #[(.ref o0), (.ref o1), (.int p2), (.int p3), (.ref o4)] h0 (fun (v : Option Value) (h : Heap) (L : List Loc) => v = none ∧ Fr n0 L ∧ Keep h0 h [o0] ∧ Exa Z h o0 "com/example/tallywire/tallywire/rules/Layer" ∧ Fld Z h o0 "com/example/tallywire/tallywire/rules/Layer" "facts" "I" (.int p2) ∧ Fld Z h o0 "com/example/tallywire/tallywire/rules/Layer" "tallies" "I" (.int p3)) := by
  refine own_enter (plainFor_of_name own_pn_com_example_tallywire_tallywire_rules_Layer) ?_
  intro p e s m below meth c s₁ P hx hby hml hrt hlk hown hnm hZ X0 e0 hP
  have N0 := Fr.nil n0
  have K0 := Keep.refl h0 [o0]
  have hml' : c.maxLocals = 5 := hml
  refine own_cast (own_efly m o0 o1 p2 p3 o4) ?_
  show own_End p e below P (s₁.setTop (mkF m 0 #[.val (.ref o0), .val (.ref o1), .val (.int p2), .val (.int p3), .val (.ref o4)] []))
  refine own_st (fun _ => XS.aloadN X0.here hx rfl (hb hby own_dly_0) rfl rfl) ?_
  show own_End p e below P (s₁.setTop (mkF m 1 #[.val (.ref o0), .val (.ref o1), .val (.int p2), .val (.int p3), .val (.ref o4)] [(.ref o0)]))
  refine own_callI X0 hx hZ (y := (⟨"java/lang/Record", "<init>", "()V"⟩ : MethodName)) rfl hown (hw _ (List.mem_of_getElem? (i := 169) rfl)) (hw _ (List.mem_of_getElem? (i := 170) rfl)) (hw _ (List.mem_of_getElem? (i := 172) rfl)) (hw _ (List.mem_of_getElem? (i := 173) rfl)) (by decide) (own_m3 l Z a0 hw [] o0  h0 n0 (Nat.le_trans Z0 K0.1) ) 0 (by decide) (by decide) e0 (by decide) (by decide) (g := (mkF m 1 #[.val (.ref o0), .val (.ref o1), .val (.int p2), .val (.int p3), .val (.ref o4)] [(.ref o0)])) rfl (by rw [hml']; rfl) (a := o0) (argsL := []) (rest := []) rfl (lenOf own_pd_V_167 rfl) rfl (by show 2 * 0 + _ ≤ _; exact Nat.le_of_eq rfl) (hb hby own_dly_1) (fun r1 T1 L1 X1 hQ1 => ?_)
  obtain ⟨rfl, Nq1, eq1⟩ := hQ1
  have N1 := Fr.app N0 Nq1
  show own_End p e below P (T1.setTop (mkF m 4 #[.val (.ref o0), .val (.ref o1), .val (.int p2), .val (.int p3), .val (.ref o4)] []))
  refine own_st (fun _ => XS.aload X1.here hx rfl (hb hby own_dly_4) rfl rfl) ?_
  show own_End p e below P (T1.setTop (mkF m 6 #[.val (.ref o0), .val (.ref o1), .val (.int p2), .val (.int p3), .val (.ref o4)] [(.ref o4)]))
  refine own_callS X1 hx hZ (y := (⟨"java/util/Set", "copyOf", "(Ljava/util/Collection;)Ljava/util/Set;"⟩ : MethodName)) hown (hw _ (List.mem_of_getElem? (i := 175) rfl)) (hw _ (List.mem_of_getElem? (i := 176) rfl)) (hw _ (List.mem_of_getElem? (i := 162) rfl)) (hw _ (List.mem_of_getElem? (i := 177) rfl)) (by decide) (own_mcopy l Z a0 hw [] o4  h0 n0 (Nat.le_trans Z0 K0.1) E_o4) 0 (by decide) (by decide) eq1 (by decide) (by decide) (g := (mkF m 6 #[.val (.ref o0), .val (.ref o1), .val (.int p2), .val (.int p3), .val (.ref o4)] [(.ref o4)])) rfl (by rw [hml']; rfl) (argsL := [(.ref o4)]) (rest := []) rfl (lenOf own_pd_Ljava_util_Collection__Ljava_util_Set_612 rfl) rfl (by show 2 * 0 + _ ≤ _; exact Nat.le_of_eq rfl) (hb hby own_dly_6) (fun r2 T2 L2 X2 hQ2 => ?_)
  obtain ⟨rfl, Nq2, eq2⟩ := hQ2
  have N2 := Fr.app N1 Nq2
  show own_End p e below P (T2.setTop (mkF m 9 #[.val (.ref o0), .val (.ref o1), .val (.int p2), .val (.int p3), .val (.ref o4)] [(.ref o4)]))
  refine own_st (fun _ => XS.astore X2.here hx rfl (hb hby own_dly_9) rfl rfl (l' := #[.val (.ref o0), .val (.ref o1), .val (.int p2), .val (.int p3), .val (.ref o4)]) rfl) ?_
  show own_End p e below P (T2.setTop (mkF m 11 #[.val (.ref o0), .val (.ref o1), .val (.int p2), .val (.int p3), .val (.ref o4)] []))
  refine own_st (fun _ => XS.aloadN X2.here hx rfl (hb hby own_dly_11) rfl rfl) ?_
  show own_End p e below P (T2.setTop (mkF m 12 #[.val (.ref o0), .val (.ref o1), .val (.int p2), .val (.int p3), .val (.ref o4)] [(.ref o0)]))
  refine own_st (fun _ => XS.aloadN X2.here hx rfl (hb hby own_dly_12) rfl rfl) ?_
  show own_End p e below P (T2.setTop (mkF m 13 #[.val (.ref o0), .val (.ref o1), .val (.int p2), .val (.int p3), .val (.ref o4)] [(.ref o1), (.ref o0)]))
  obtain ⟨T3, h3, X3, e3, W3, st3⟩ := putF X2 hx hZ hown (host := "") (Or.inl (hw _ (List.mem_of_getElem? (i := 182) rfl))) Via.refl eq2 F_o0_root E_o0 (Or.inr ⟨(hw _ (List.mem_of_getElem? (i := 183) rfl)), rfl, hnm⟩) (hw _ (List.mem_of_getElem? (i := 154) rfl)) (ty := (.object "com/example/tallywire/tallywire/rules/PathNode")) (by decide) rfl rfl (g := (mkF m 13 #[.val (.ref o0), .val (.ref o1), .val (.int p2), .val (.int p3), .val (.ref o4)] [(.ref o1), (.ref o0)])) rfl rfl (hb hby own_dly_13)
  have N3 := Fr.snoc X3 N2 low_o0
  have K3 := Keep.wr K0 W3 (Or.inl (List.mem_of_getElem? (i := 0) rfl))
  have F3 := F_o0_root.same W3
  refine own_st (fun _ => st3 _) ?_
  show own_End p e below P (T3.setTop (mkF m 16 #[.val (.ref o0), .val (.ref o1), .val (.int p2), .val (.int p3), .val (.ref o4)] []))
  refine own_st (fun _ => XS.aloadN X3.here hx rfl (hb hby own_dly_16) rfl rfl) ?_
  show own_End p e below P (T3.setTop (mkF m 17 #[.val (.ref o0), .val (.ref o1), .val (.int p2), .val (.int p3), .val (.ref o4)] [(.ref o0)]))
  refine own_st (fun _ => XS.iloadN X3.here hx rfl (hb hby own_dly_17) rfl) ?_
  show own_End p e below P (T3.setTop (mkF m 18 #[.val (.ref o0), .val (.ref o1), .val (.int p2), .val (.int p3), .val (.ref o4)] [(.int p2), (.ref o0)]))
  have G4 := (F_o0_facts.other W3 (Or.inr (slot_ne (Or.inr (hw _ (List.mem_of_getElem? (i := 185) rfl))) (Or.inr (hw _ (List.mem_of_getElem? (i := 183) rfl))) (by decide) (t := .int) (t' := (.object "com/example/tallywire/tallywire/rules/PathNode")) (by decide) (by decide))))
  have G5 := (E_o0.wr W3)
  obtain ⟨T6, h6, X6, e6, W6, st6⟩ := putF X3 hx hZ hown (host := "") (Or.inl (hw _ (List.mem_of_getElem? (i := 184) rfl))) Via.refl e3 G4 G5 (Or.inr ⟨(hw _ (List.mem_of_getElem? (i := 185) rfl)), rfl, hnm⟩) (hw _ (List.mem_of_getElem? (i := 154) rfl)) (ty := .int) (by decide) rfl rfl (g := (mkF m 18 #[.val (.ref o0), .val (.ref o1), .val (.int p2), .val (.int p3), .val (.ref o4)] [(.int p2), (.ref o0)])) rfl rfl (hb hby own_dly_18)
  have N6 := Fr.snoc X6 N3 low_o0
  have K6 := Keep.wr K3 W6 (Or.inl (List.mem_of_getElem? (i := 0) rfl))
  have F6 := G4.same W6
  refine own_st (fun _ => st6 _) ?_
  show own_End p e below P (T6.setTop (mkF m 21 #[.val (.ref o0), .val (.ref o1), .val (.int p2), .val (.int p3), .val (.ref o4)] []))
  refine own_st (fun _ => XS.aloadN X6.here hx rfl (hb hby own_dly_21) rfl rfl) ?_
  show own_End p e below P (T6.setTop (mkF m 22 #[.val (.ref o0), .val (.ref o1), .val (.int p2), .val (.int p3), .val (.ref o4)] [(.ref o0)]))
  refine own_st (fun _ => XS.iloadN X6.here hx rfl (hb hby own_dly_22) rfl) ?_
  show own_End p e below P (T6.setTop (mkF m 23 #[.val (.ref o0), .val (.ref o1), .val (.int p2), .val (.int p3), .val (.ref o4)] [(.int p3), (.ref o0)]))
  have G7 := ((F_o0_tallies.other W3 (Or.inr (slot_ne (Or.inr (hw _ (List.mem_of_getElem? (i := 187) rfl))) (Or.inr (hw _ (List.mem_of_getElem? (i := 183) rfl))) (by decide) (t := .int) (t' := (.object "com/example/tallywire/tallywire/rules/PathNode")) (by decide) (by decide)))).other W6 (Or.inr (slot_ne (Or.inr (hw _ (List.mem_of_getElem? (i := 187) rfl))) (Or.inr (hw _ (List.mem_of_getElem? (i := 185) rfl))) (by decide) (t := .int) (t' := .int) (by decide) (by decide))))
  have G8 := (G5.wr W6)
  obtain ⟨T9, h9, X9, e9, W9, st9⟩ := putF X6 hx hZ hown (host := "") (Or.inl (hw _ (List.mem_of_getElem? (i := 186) rfl))) Via.refl e6 G7 G8 (Or.inr ⟨(hw _ (List.mem_of_getElem? (i := 187) rfl)), rfl, hnm⟩) (hw _ (List.mem_of_getElem? (i := 154) rfl)) (ty := .int) (by decide) rfl rfl (g := (mkF m 23 #[.val (.ref o0), .val (.ref o1), .val (.int p2), .val (.int p3), .val (.ref o4)] [(.int p3), (.ref o0)])) rfl rfl (hb hby own_dly_23)
  have N9 := Fr.snoc X9 N6 low_o0
  have K9 := Keep.wr K6 W9 (Or.inl (List.mem_of_getElem? (i := 0) rfl))
  have F9 := G7.same W9
  refine own_st (fun _ => st9 _) ?_
  show own_End p e below P (T9.setTop (mkF m 26 #[.val (.ref o0), .val (.ref o1), .val (.int p2), .val (.int p3), .val (.ref o4)] []))
  refine own_st (fun _ => XS.aloadN X9.here hx rfl (hb hby own_dly_26) rfl rfl) ?_
  show own_End p e below P (T9.setTop (mkF m 27 #[.val (.ref o0), .val (.ref o1), .val (.int p2), .val (.int p3), .val (.ref o4)] [(.ref o0)]))
  refine own_st (fun _ => XS.aload X9.here hx rfl (hb hby own_dly_27) rfl rfl) ?_
  show own_End p e below P (T9.setTop (mkF m 29 #[.val (.ref o0), .val (.ref o1), .val (.int p2), .val (.int p3), .val (.ref o4)] [(.ref o4), (.ref o0)]))
  have G10 := (((F_o0_off.other W3 (Or.inr (slot_ne (Or.inr (hw _ (List.mem_of_getElem? (i := 189) rfl))) (Or.inr (hw _ (List.mem_of_getElem? (i := 183) rfl))) (by decide) (t := (.object "java/util/Set")) (t' := (.object "com/example/tallywire/tallywire/rules/PathNode")) (by decide) (by decide)))).other W6 (Or.inr (slot_ne (Or.inr (hw _ (List.mem_of_getElem? (i := 189) rfl))) (Or.inr (hw _ (List.mem_of_getElem? (i := 185) rfl))) (by decide) (t := (.object "java/util/Set")) (t' := .int) (by decide) (by decide)))).other W9 (Or.inr (slot_ne (Or.inr (hw _ (List.mem_of_getElem? (i := 189) rfl))) (Or.inr (hw _ (List.mem_of_getElem? (i := 187) rfl))) (by decide) (t := (.object "java/util/Set")) (t' := .int) (by decide) (by decide))))
  have G11 := (G8.wr W9)
  obtain ⟨T12, h12, X12, e12, W12, st12⟩ := putF X9 hx hZ hown (host := "") (Or.inl (hw _ (List.mem_of_getElem? (i := 188) rfl))) Via.refl e9 G10 G11 (Or.inr ⟨(hw _ (List.mem_of_getElem? (i := 189) rfl)), rfl, hnm⟩) (hw _ (List.mem_of_getElem? (i := 154) rfl)) (ty := (.object "java/util/Set")) (by decide) rfl rfl (g := (mkF m 29 #[.val (.ref o0), .val (.ref o1), .val (.int p2), .val (.int p3), .val (.ref o4)] [(.ref o4), (.ref o0)])) rfl rfl (hb hby own_dly_29)
  have N12 := Fr.snoc X12 N9 low_o0
  have K12 := Keep.wr K9 W12 (Or.inl (List.mem_of_getElem? (i := 0) rfl))
  have F12 := G10.same W12
  refine own_st (fun _ => st12 _) ?_
  show own_End p e below P (T12.setTop (mkF m 32 #[.val (.ref o0), .val (.ref o1), .val (.int p2), .val (.int p3), .val (.ref o4)] []))
  have G13 := (G11.wr W12)
  have G14 := ((F6.other W9 (Or.inr (slot_ne (Or.inr (hw _ (List.mem_of_getElem? (i := 185) rfl))) (Or.inr (hw _ (List.mem_of_getElem? (i := 187) rfl))) (by decide) (t := .int) (t' := .int) (by decide) (by decide)))).other W12 (Or.inr (slot_ne (Or.inr (hw _ (List.mem_of_getElem? (i := 185) rfl))) (Or.inr (hw _ (List.mem_of_getElem? (i := 189) rfl))) (by decide) (t := .int) (t' := (.object "java/util/Set")) (by decide) (by decide))))
  have G15 := (F9.other W12 (Or.inr (slot_ne (Or.inr (hw _ (List.mem_of_getElem? (i := 187) rfl))) (Or.inr (hw _ (List.mem_of_getElem? (i := 189) rfl))) (by decide) (t := .int) (t' := (.object "java/util/Set")) (by decide) (by decide))))
  have hfin : ((fun (v : Option Value) (h : Heap) (L : List Loc) => v = none ∧ Fr n0 L ∧ Keep h0 h [o0] ∧ Exa Z h o0 "com/example/tallywire/tallywire/rules/Layer" ∧ Fld Z h o0 "com/example/tallywire/tallywire/rules/Layer" "facts" "I" (.int p2) ∧ Fld Z h o0 "com/example/tallywire/tallywire/rules/Layer" "tallies" "I" (.int p3))) none h12 _ := ⟨rfl, N12, K12, G13, G14, G15⟩
  refine own_retV X12 hx hlk hP hrt (hb hby own_dly_32) (by decide) (by decide) ?_
  rw [e12]; exact hfin
theorem own_dlayer_0 : decode prog_137_method_2_code 0 = .ok (.new 46, 3) := by decide +kernel
theorem own_dlayer_3 : decode prog_137_method_2_code 3 = .ok (.dup, 1) := by decide +kernel
theorem own_dlayer_4 : decode prog_137_method_2_code 4 = .ok (.aload_n 0, 1) := by decide +kernel
theorem own_dlayer_5 : decode prog_137_method_2_code 5 = .ok (.getfield 14, 3) := by decide +kernel
theorem own_dlayer_8 : decode prog_137_method_2_code 8 = .ok (.aload_n 0, 1) := by decide +kernel
theorem own_dlayer_9 : decode prog_137_method_2_code 9 = .ok (.getfield 48, 3) := by decide +kernel
theorem own_dlayer_12 : decode prog_137_method_2_code 12 = .ok (.aload_n 0, 1) := by decide +kernel
theorem own_dlayer_13 : decode prog_137_method_2_code 13 = .ok (.getfield 52, 3) := by decide +kernel
theorem own_dlayer_16 : decode prog_137_method_2_code 16 = .ok (.invokestatic 55, 3) := by decide +kernel
theorem own_pd_Ljava_util_Set_477 : parseMethodDescriptor "()Ljava/util/Set;" = some ⟨[], some (.object "java/util/Set")⟩ := by decide +kernel
theorem own_dlayer_19 : decode prog_137_method_2_code 19 = .ok (.invokespecial 61, 3) := by decide +kernel
theorem own_pd_Lcom_example_tallywire_tallywire_rules_PathNode_IILjava_util_Set__V_481 : parseMethodDescriptor "(Lcom/example/tallywire/tallywire/rules/PathNode;IILjava/util/Set;)V" = some ⟨[(.object "com/example/tallywire/tallywire/rules/PathNode"), .int, .int, (.object "java/util/Set")], none⟩ := by decide +kernel
theorem own_dlayer_22 : decode prog_137_method_2_code 22 = .ok (.areturn, 1) := by decide +kernel
theorem own_eflayer (m : MethodId) (o0 : Addr) : entryFrame m #[(.ref o0)] 1 = mkF m 0 #[.val (.ref o0)] [] := by first | (simp [entryFrame, mkF, argsToLocals, Value.category]; done) | rfl
set_option maxRecDepth 65536 in
set_option maxHeartbeats 40000000 in
theorem own_mlayer (l : Launch) (Z : State) (a0 : Array Value) (hw : ∀ d ∈ tables_1, d.before a0 Z = true) (ws : List Jvm.Cond) (o0 : Addr) (w_o0_root : Addr) (w_o0_facts : Int32) (w_o0_tallies : Int32) (s_ImmutableCollections_EMPTY_SET : Addr) (h0 : Heap) (n0 : Nat) (Z0 : n0 ≤ h0.size) (E_s_ImmutableCollections_EMPTY_SET : Exa Z h0 s_ImmutableCollections_EMPTY_SET "java/util/ImmutableCollections$SetN") (F_o0_root : Fld Z h0 o0 "com/example/tallywire/tallywire/rules/GuidelineTree" "root" "Lcom/example/tallywire/tallywire/rules/PathNode;" (.ref w_o0_root)) (F_o0_facts : Fld Z h0 o0 "com/example/tallywire/tallywire/rules/GuidelineTree" "facts" "I" (.int w_o0_facts)) (F_o0_tallies : Fld Z h0 o0 "com/example/tallywire/tallywire/rules/GuidelineTree" "tallies" "I" (.int w_o0_tallies)) (S_ImmutableCollections_EMPTY_SET : Sta Z h0 "java/util/ImmutableCollections" "EMPTY_SET" "Ljava/util/ImmutableCollections$SetN;" (.ref s_ImmutableCollections_EMPTY_SET)) :
    own_Met l Z (⟨"com/example/tallywire/tallywire/rules/GuidelineTree", "layer", "()Lcom/example/tallywire/tallywire/rules/Layer;"⟩ : MethodName) prog_137_method_2_code 1 (some (.object "com/example/tallywire/tallywire/rules/Layer")) ws ({ frames := 3, cells := 1, slots := 4, locals := 41 } : Room) #[(.ref o0)] h0 (fun (v : Option Value) (h : Heap) (L : List Loc) => ∃ (b1 : Addr), v = some (.ref b1) ∧ Fr n0 L ∧ Keep h0 h [] ∧ h0.size ≤ b1 ∧ n0 ≤ b1 ∧ Exa Z h b1 "com/example/tallywire/tallywire/rules/Layer" ∧ Fld Z h b1 "com/example/tallywire/tallywire/rules/Layer" "facts" "I" (.int w_o0_facts) ∧ Fld Z h b1 "com/example/tallywire/tallywire/rules/Layer" "tallies" "I" (.int w_o0_tallies)) := by
  refine own_enter (plainFor_of_name own_pn_com_example_tallywire_tallywire_rules_GuidelineTree) ?_
  intro p e s m below meth c s₁ P hx hby hml hrt hlk hown hnm hZ X0 e0 hP
  have N0 := Fr.nil n0
  have K0 := Keep.refl h0 []
  have hml' : c.maxLocals = 1 := hml
  refine own_cast (own_eflayer m o0) ?_
  show own_End p e below P (s₁.setTop (mkF m 0 #[.val (.ref o0)] []))
  obtain ⟨T1, h1, X1, e1, E1, A1, D1, -, st1⟩ := newO X0 hx hZ hown (hw _ (List.mem_of_getElem? (i := 153) rfl)) (hw _ (List.mem_of_getElem? (i := 154) rfl)) (hw _ (List.mem_of_getElem? (i := 155) rfl)) e0 (g := (mkF m 0 #[.val (.ref o0)] [])) rfl (hb hby own_dlayer_0) (by decide) (by decide)
  obtain ⟨b1, g1⟩ : ∃ z, z = h0.size := ⟨_, rfl⟩
  rw [← g1] at A1 D1 st1
  have ne2 : o0 ≠ b1 := Nat.ne_of_lt (Nat.lt_of_lt_of_le F_o0_root.lt (Nat.le_of_eq g1.symm))
  have ne3 : s_ImmutableCollections_EMPTY_SET ≠ b1 := Nat.ne_of_lt (Nat.lt_of_lt_of_le E_s_ImmutableCollections_EMPTY_SET.lt (Nat.le_of_eq g1.symm))
  have low_b1 : n0 ≤ b1 := Nat.le_trans (Nat.le_trans Z0 K0.1) (Nat.le_of_eq g1.symm)
  have sz_b1 : h0.size ≤ b1 := Nat.le_trans K0.1 (Nat.le_of_eq g1.symm)
  have K1 := Keep.ext K0 E1
  have F_b1_root : Fld Z h1 b1 "com/example/tallywire/tallywire/rules/Layer" "root" "Lcom/example/tallywire/tallywire/rules/PathNode;" .null := D1 (Or.inr (hw _ (List.mem_of_getElem? (i := 183) rfl))) (ty := (.object "com/example/tallywire/tallywire/rules/PathNode")) (by decide)
  have F_b1_facts : Fld Z h1 b1 "com/example/tallywire/tallywire/rules/Layer" "facts" "I" (.int (0 : Int32)) := D1 (Or.inr (hw _ (List.mem_of_getElem? (i := 185) rfl))) (ty := .int) (by decide)
  have F_b1_tallies : Fld Z h1 b1 "com/example/tallywire/tallywire/rules/Layer" "tallies" "I" (.int (0 : Int32)) := D1 (Or.inr (hw _ (List.mem_of_getElem? (i := 187) rfl))) (ty := .int) (by decide)
  have F_b1_off : Fld Z h1 b1 "com/example/tallywire/tallywire/rules/Layer" "off" "Ljava/util/Set;" .null := D1 (Or.inr (hw _ (List.mem_of_getElem? (i := 189) rfl))) (ty := (.object "java/util/Set")) (by decide)
  refine own_st (fun _ => st1 _) ?_
  show own_End p e below P (T1.setTop (mkF m 3 #[.val (.ref o0)] [(.ref b1)]))
  refine own_st (fun _ => XS.dup X1.here hx rfl (hb hby own_dlayer_3) rfl rfl) ?_
  show own_End p e below P (T1.setTop (mkF m 4 #[.val (.ref o0)] [(.ref b1), (.ref b1)]))
  refine own_st (fun _ => XS.aloadN X1.here hx rfl (hb hby own_dlayer_4) rfl rfl) ?_
  show own_End p e below P (T1.setTop (mkF m 5 #[.val (.ref o0)] [(.ref o0), (.ref b1), (.ref b1)]))
  have G4 := (F_o0_root.ext E1)
  obtain ⟨T5, X5, e5, st5⟩ := getF X1 hx hZ hown (host := "") (Or.inl (hw _ (List.mem_of_getElem? (i := 112) rfl))) Via.refl e1 G4 (g := (mkF m 5 #[.val (.ref o0)] [(.ref o0), (.ref b1), (.ref b1)])) rfl rfl (hb hby own_dlayer_5)
  refine own_st (fun _ => st5 _) ?_
  show own_End p e below P (T5.setTop (mkF m 8 #[.val (.ref o0)] [(.ref w_o0_root), (.ref b1), (.ref b1)]))
  refine own_st (fun _ => XS.aloadN X5.here hx rfl (hb hby own_dlayer_8) rfl rfl) ?_
  show own_End p e below P (T5.setTop (mkF m 9 #[.val (.ref o0)] [(.ref o0), (.ref w_o0_root), (.ref b1), (.ref b1)]))
  have G6 := (F_o0_facts.ext E1)
  obtain ⟨T7, X7, e7, st7⟩ := getF X5 hx hZ hown (host := "") (Or.inl (hw _ (List.mem_of_getElem? (i := 156) rfl))) Via.refl e5 G6 (g := (mkF m 9 #[.val (.ref o0)] [(.ref o0), (.ref w_o0_root), (.ref b1), (.ref b1)])) rfl rfl (hb hby own_dlayer_9)
  refine own_st (fun _ => st7 _) ?_
  show own_End p e below P (T7.setTop (mkF m 12 #[.val (.ref o0)] [(.int w_o0_facts), (.ref w_o0_root), (.ref b1), (.ref b1)]))
  refine own_st (fun _ => XS.aloadN X7.here hx rfl (hb hby own_dlayer_12) rfl rfl) ?_
  show own_End p e below P (T7.setTop (mkF m 13 #[.val (.ref o0)] [(.ref o0), (.int w_o0_facts), (.ref w_o0_root), (.ref b1), (.ref b1)]))
  have G8 := (F_o0_tallies.ext E1)
  obtain ⟨T9, X9, e9, st9⟩ := getF X7 hx hZ hown (host := "") (Or.inl (hw _ (List.mem_of_getElem? (i := 158) rfl))) Via.refl e7 G8 (g := (mkF m 13 #[.val (.ref o0)] [(.ref o0), (.int w_o0_facts), (.ref w_o0_root), (.ref b1), (.ref b1)])) rfl rfl (hb hby own_dlayer_13)
  refine own_st (fun _ => st9 _) ?_
  show own_End p e below P (T9.setTop (mkF m 16 #[.val (.ref o0)] [(.int w_o0_tallies), (.int w_o0_facts), (.ref w_o0_root), (.ref b1), (.ref b1)]))
  have G11 := (S_ImmutableCollections_EMPTY_SET.ext E1)
  refine own_callS X9 hx hZ (y := (⟨"java/util/Set", "of", "()Ljava/util/Set;"⟩ : MethodName)) hown (hw _ (List.mem_of_getElem? (i := 160) rfl)) (hw _ (List.mem_of_getElem? (i := 161) rfl)) (hw _ (List.mem_of_getElem? (i := 162) rfl)) (hw _ (List.mem_of_getElem? (i := 163) rfl)) (by decide) (own_mof l Z a0 hw []  s_ImmutableCollections_EMPTY_SET h1 n0 (Nat.le_trans Z0 K1.1) G11) 5 (by decide) (by decide) e9 (by decide) (by decide) (g := (mkF m 16 #[.val (.ref o0)] [(.int w_o0_tallies), (.int w_o0_facts), (.ref w_o0_root), (.ref b1), (.ref b1)])) rfl (by rw [hml']; rfl) (argsL := []) (rest := [(.int w_o0_tallies), (.int w_o0_facts), (.ref w_o0_root), (.ref b1), (.ref b1)]) rfl (lenOf own_pd_Ljava_util_Set_477 rfl) rfl (by show 2 * 0 + _ ≤ _; exact Nat.le_of_eq rfl) (hb hby own_dlayer_16) (fun r10 T10 L10 X10 hQ10 => ?_)
  obtain ⟨rfl, Nq10, eq10⟩ := hQ10
  have N10 := Fr.app N0 Nq10
  show own_End p e below P (T10.setTop (mkF m 19 #[.val (.ref o0)] [(.ref s_ImmutableCollections_EMPTY_SET), (.int w_o0_tallies), (.int w_o0_facts), (.ref w_o0_root), (.ref b1), (.ref b1)]))
  have G13 := (E_s_ImmutableCollections_EMPTY_SET.ext E1)
  refine own_callI X10 hx hZ (y := (⟨"com/example/tallywire/tallywire/rules/Layer", "<init>", "(Lcom/example/tallywire/tallywire/rules/PathNode;IILjava/util/Set;)V"⟩ : MethodName)) rfl hown (hw _ (List.mem_of_getElem? (i := 166) rfl)) (hw _ (List.mem_of_getElem? (i := 167) rfl)) (hw _ (List.mem_of_getElem? (i := 155) rfl)) (hw _ (List.mem_of_getElem? (i := 168) rfl)) (by decide) (own_mly l Z a0 hw [] b1 w_o0_root w_o0_facts w_o0_tallies s_ImmutableCollections_EMPTY_SET  h1 n0 (Nat.le_trans Z0 K1.1) A1 G13 F_b1_root F_b1_facts F_b1_tallies F_b1_off low_b1) 1 (by decide) (by decide) eq10 (by decide) (by decide) (g := (mkF m 19 #[.val (.ref o0)] [(.ref s_ImmutableCollections_EMPTY_SET), (.int w_o0_tallies), (.int w_o0_facts), (.ref w_o0_root), (.ref b1), (.ref b1)])) rfl (by rw [hml']; rfl) (a := b1) (argsL := [(.ref w_o0_root), (.int w_o0_facts), (.int w_o0_tallies), (.ref s_ImmutableCollections_EMPTY_SET)]) (rest := [(.ref b1)]) rfl (lenOf own_pd_Lcom_example_tallywire_tallywire_rules_PathNode_IILjava_util_Set__V_481 rfl) rfl (by show 2 * 0 + _ ≤ _; exact Nat.le_of_eq rfl) (hb hby own_dlayer_19) (fun r12 T12 L12 X12 hQ12 => ?_)
  obtain ⟨rfl, Nq12, Kq12, f0_12, f1_12, f2_12⟩ := hQ12
  have N12 := Fr.app N10 Nq12
  have K12 := Keep.trans K1 Kq12 (allS (Or.inr sz_b1) all0)
  show own_End p e below P (T12.setTop (mkF m 22 #[.val (.ref o0)] [(.ref b1)]))
  have hfin : ((fun (v : Option Value) (h : Heap) (L : List Loc) => ∃ (b1 : Addr), v = some (.ref b1) ∧ Fr n0 L ∧ Keep h0 h [] ∧ h0.size ≤ b1 ∧ n0 ≤ b1 ∧ Exa Z h b1 "com/example/tallywire/tallywire/rules/Layer" ∧ Fld Z h b1 "com/example/tallywire/tallywire/rules/Layer" "facts" "I" (.int w_o0_facts) ∧ Fld Z h b1 "com/example/tallywire/tallywire/rules/Layer" "tallies" "I" (.int w_o0_tallies))) (some (.ref b1)) T12.heap _ := ⟨b1, rfl, N12, K12, sz_b1, low_b1, f0_12, f1_12, f2_12⟩
  refine own_retR X12 hx hlk hP rfl rfl hrt (hb hby own_dlayer_22) (by decide) (by decide) ?_
  exact hfin
theorem own_dlt_0 : decode prog_140_method_8_code 0 = .ok (.aload_n 0, 1) := by decide +kernel
theorem own_dlt_1 : decode prog_140_method_8_code 1 = .ok (.getfield 23, 3) := by decide +kernel
theorem own_dlt_4 : decode prog_140_method_8_code 4 = .ok (.ireturn, 1) := by decide +kernel
theorem own_eflt (m : MethodId) (o0 : Addr) : entryFrame m #[(.ref o0)] 1 = mkF m 0 #[.val (.ref o0)] [] := by first | (simp [entryFrame, mkF, argsToLocals, Value.category]; done) | rfl
def own_flt (w_o0_tallies : Int32) : Int32 := w_o0_tallies
set_option maxRecDepth 65536 in
set_option maxHeartbeats 40000000 in
theorem own_mlt (l : Launch) (Z : State) (a0 : Array Value) (hw : ∀ d ∈ tables_1, d.before a0 Z = true) (ws : List Jvm.Cond) (o0 : Addr) (w_o0_tallies : Int32) (h0 : Heap) (n0 : Nat) (Z0 : n0 ≤ h0.size) (F_o0_tallies : Fld Z h0 o0 "com/example/tallywire/tallywire/rules/Layer" "tallies" "I" (.int w_o0_tallies)) :
    own_Met l Z (⟨"com/example/tallywire/tallywire/rules/Layer", "tallies", "()I"⟩ : MethodName) prog_140_method_8_code 1 (some .int) ws ({ frames := 0, cells := 0, slots := 0, locals := 0 } : Room) #[(.ref o0)] h0 (fun (v : Option Value) (h : Heap) (L : List Loc) => v = some (.int (own_flt w_o0_tallies)) ∧ Fr n0 L ∧ h = h0) := by
  refine own_enter (plainFor_of_name own_pn_com_example_tallywire_tallywire_rules_Layer) ?_
  intro p e s m below meth c s₁ P hx hby hml hrt hlk hown hnm hZ X0 e0 hP
  have N0 := Fr.nil n0
  have K0 := Keep.refl h0 []
  have hml' : c.maxLocals = 1 := hml
  refine own_cast (own_eflt m o0) ?_
  show own_End p e below P (s₁.setTop (mkF m 0 #[.val (.ref o0)] []))
  refine own_st (fun _ => XS.aloadN X0.here hx rfl (hb hby own_dlt_0) rfl rfl) ?_
  show own_End p e below P (s₁.setTop (mkF m 1 #[.val (.ref o0)] [(.ref o0)]))
  obtain ⟨T1, X1, e1, st1⟩ := getF X0 hx hZ hown (host := "") (Or.inl (hw _ (List.mem_of_getElem? (i := 186) rfl))) Via.refl e0 F_o0_tallies (g := (mkF m 1 #[.val (.ref o0)] [(.ref o0)])) rfl rfl (hb hby own_dlt_1)
  refine own_st (fun _ => st1 _) ?_
  show own_End p e below P (T1.setTop (mkF m 4 #[.val (.ref o0)] [(.int w_o0_tallies)]))
  refine own_retI X1 hx hlk hP hrt (hb hby own_dlt_4) (by decide) (by decide) ⟨congrArg (fun z => some (Value.int z)) ?_, N0, e1⟩
  exact (show own_flt w_o0_tallies = w_o0_tallies from rfl).symm
theorem own_dlf_0 : decode prog_140_method_7_code 0 = .ok (.aload_n 0, 1) := by decide +kernel
theorem own_dlf_1 : decode prog_140_method_7_code 1 = .ok (.getfield 19, 3) := by decide +kernel
theorem own_dlf_4 : decode prog_140_method_7_code 4 = .ok (.ireturn, 1) := by decide +kernel
theorem own_eflf (m : MethodId) (o0 : Addr) : entryFrame m #[(.ref o0)] 1 = mkF m 0 #[.val (.ref o0)] [] := by first | (simp [entryFrame, mkF, argsToLocals, Value.category]; done) | rfl
def own_flf (w_o0_facts : Int32) : Int32 := w_o0_facts
set_option maxRecDepth 65536 in
set_option maxHeartbeats 40000000 in
theorem own_mlf (l : Launch) (Z : State) (a0 : Array Value) (hw : ∀ d ∈ tables_1, d.before a0 Z = true) (ws : List Jvm.Cond) (o0 : Addr) (w_o0_facts : Int32) (h0 : Heap) (n0 : Nat) (Z0 : n0 ≤ h0.size) (F_o0_facts : Fld Z h0 o0 "com/example/tallywire/tallywire/rules/Layer" "facts" "I" (.int w_o0_facts)) :
    own_Met l Z (⟨"com/example/tallywire/tallywire/rules/Layer", "facts", "()I"⟩ : MethodName) prog_140_method_7_code 1 (some .int) ws ({ frames := 0, cells := 0, slots := 0, locals := 0 } : Room) #[(.ref o0)] h0 (fun (v : Option Value) (h : Heap) (L : List Loc) => v = some (.int (own_flf w_o0_facts)) ∧ Fr n0 L ∧ h = h0) := by
  refine own_enter (plainFor_of_name own_pn_com_example_tallywire_tallywire_rules_Layer) ?_
  intro p e s m below meth c s₁ P hx hby hml hrt hlk hown hnm hZ X0 e0 hP
  have N0 := Fr.nil n0
  have K0 := Keep.refl h0 []
  have hml' : c.maxLocals = 1 := hml
  refine own_cast (own_eflf m o0) ?_
  show own_End p e below P (s₁.setTop (mkF m 0 #[.val (.ref o0)] []))
  refine own_st (fun _ => XS.aloadN X0.here hx rfl (hb hby own_dlf_0) rfl rfl) ?_
  show own_End p e below P (s₁.setTop (mkF m 1 #[.val (.ref o0)] [(.ref o0)]))
  obtain ⟨T1, X1, e1, st1⟩ := getF X0 hx hZ hown (host := "") (Or.inl (hw _ (List.mem_of_getElem? (i := 184) rfl))) Via.refl e0 F_o0_facts (g := (mkF m 1 #[.val (.ref o0)] [(.ref o0)])) rfl rfl (hb hby own_dlf_1)
  refine own_st (fun _ => st1 _) ?_
  show own_End p e below P (T1.setTop (mkF m 4 #[.val (.ref o0)] [(.int w_o0_facts)]))
  refine own_retI X1 hx hlk hP hrt (hb hby own_dlf_4) (by decide) (by decide) ⟨congrArg (fun z => some (Value.int z)) ?_, N0, e1⟩
  exact (show own_flf w_o0_facts = w_o0_facts from rfl).symm
theorem own_dnt_0 : decode prog_137_method_6_code 0 = .ok (.aload_n 0, 1) := by decide +kernel
theorem own_dnt_1 : decode prog_137_method_6_code 1 = .ok (.dup, 1) := by decide +kernel
theorem own_dnt_2 : decode prog_137_method_6_code 2 = .ok (.getfield 52, 3) := by decide +kernel
theorem own_dnt_5 : decode prog_137_method_6_code 5 = .ok (.dup_x1, 1) := by decide +kernel
theorem own_dnt_6 : decode prog_137_method_6_code 6 = .ok (.iconst 1, 1) := by decide +kernel
theorem own_dnt_7 : decode prog_137_method_6_code 7 = .ok (.iadd, 1) := by decide +kernel
theorem own_dnt_8 : decode prog_137_method_6_code 8 = .ok (.putfield 52, 3) := by decide +kernel
theorem own_dnt_11 : decode prog_137_method_6_code 11 = .ok (.ireturn, 1) := by decide +kernel
theorem own_efnt (m : MethodId) (o0 : Addr) : entryFrame m #[(.ref o0)] 1 = mkF m 0 #[.val (.ref o0)] [] := by first | (simp [entryFrame, mkF, argsToLocals, Value.category]; done) | rfl
set_option maxRecDepth 65536 in
set_option maxHeartbeats 40000000 in
theorem own_mnt (l : Launch) (Z : State) (a0 : Array Value) (hw : ∀ d ∈ tables_1, d.before a0 Z = true) (ws : List Jvm.Cond) (o0 : Addr) (w_o0_root : Addr) (w_o0_facts : Int32) (w_o0_tallies : Int32) (h0 : Heap) (n0 : Nat) (Z0 : n0 ≤ h0.size) (E_o0 : Exa Z h0 o0 "com/example/tallywire/tallywire/rules/GuidelineTree") (F_o0_root : Fld Z h0 o0 "com/example/tallywire/tallywire/rules/GuidelineTree" "root" "Lcom/example/tallywire/tallywire/rules/PathNode;" (.ref w_o0_root)) (F_o0_facts : Fld Z h0 o0 "com/example/tallywire/tallywire/rules/GuidelineTree" "facts" "I" (.int w_o0_facts)) (F_o0_tallies : Fld Z h0 o0 "com/example/tallywire/tallywire/rules/GuidelineTree" "tallies" "I" (.int w_o0_tallies)) (low_o0 : n0 ≤ o0) :
    own_Met l Z (⟨"com/example/tallywire/tallywire/rules/GuidelineTree", "nextTally", "()I"⟩ : MethodName) prog_137_method_6_code 1 (some .int) ws ({ frames := 0, cells := 0, slots := 0, locals := 0 } : Room) #[(.ref o0)] h0 (fun (v : Option Value) (h : Heap) (L : List Loc) => v = some (.int w_o0_tallies) ∧ Fr n0 L ∧ Keep h0 h [o0] ∧ Exa Z h o0 "com/example/tallywire/tallywire/rules/GuidelineTree" ∧ Fld Z h o0 "com/example/tallywire/tallywire/rules/GuidelineTree" "root" "Lcom/example/tallywire/tallywire/rules/PathNode;" (.ref w_o0_root) ∧ Fld Z h o0 "com/example/tallywire/tallywire/rules/GuidelineTree" "facts" "I" (.int w_o0_facts) ∧ Fld Z h o0 "com/example/tallywire/tallywire/rules/GuidelineTree" "tallies" "I" (.int (w_o0_tallies + (1 : Int32)))) := by
  refine own_enter (plainFor_of_name own_pn_com_example_tallywire_tallywire_rules_GuidelineTree) ?_
  intro p e s m below meth c s₁ P hx hby hml hrt hlk hown hnm hZ X0 e0 hP
  have N0 := Fr.nil n0
  have K0 := Keep.refl h0 [o0]
  have hml' : c.maxLocals = 1 := hml
  refine own_cast (own_efnt m o0) ?_
  show own_End p e below P (s₁.setTop (mkF m 0 #[.val (.ref o0)] []))
  refine own_st (fun _ => XS.aloadN X0.here hx rfl (hb hby own_dnt_0) rfl rfl) ?_
  show own_End p e below P (s₁.setTop (mkF m 1 #[.val (.ref o0)] [(.ref o0)]))
  refine own_st (fun _ => XS.dup X0.here hx rfl (hb hby own_dnt_1) rfl rfl) ?_
  show own_End p e below P (s₁.setTop (mkF m 2 #[.val (.ref o0)] [(.ref o0), (.ref o0)]))
  obtain ⟨T1, X1, e1, st1⟩ := getF X0 hx hZ hown (host := "") (Or.inl (hw _ (List.mem_of_getElem? (i := 158) rfl))) Via.refl e0 F_o0_tallies (g := (mkF m 2 #[.val (.ref o0)] [(.ref o0), (.ref o0)])) rfl rfl (hb hby own_dnt_2)
  refine own_st (fun _ => st1 _) ?_
  show own_End p e below P (T1.setTop (mkF m 5 #[.val (.ref o0)] [(.int w_o0_tallies), (.ref o0)]))
  refine own_st (fun _ => XS.dupX1 X1.here hx rfl (hb hby own_dnt_5) rfl rfl rfl) ?_
  show own_End p e below P (T1.setTop (mkF m 6 #[.val (.ref o0)] [(.int w_o0_tallies), (.ref o0), (.int w_o0_tallies)]))
  refine own_st (fun _ => XS.iconst X1.here hx rfl (hb hby own_dnt_6)) ?_
  show own_End p e below P (T1.setTop (mkF m 7 #[.val (.ref o0)] [(.int (1 : Int32)), (.int w_o0_tallies), (.ref o0), (.int w_o0_tallies)]))
  refine own_st (fun _ => XS.iadd X1.here hx rfl (hb hby own_dnt_7) rfl) ?_
  show own_End p e below P (T1.setTop (mkF m 8 #[.val (.ref o0)] [(.int (w_o0_tallies + (1 : Int32))), (.ref o0), (.int w_o0_tallies)]))
  obtain ⟨T2, h2, X2, e2, W2, st2⟩ := putF X1 hx hZ hown (host := "") (Or.inl (hw _ (List.mem_of_getElem? (i := 158) rfl))) Via.refl e1 F_o0_tallies E_o0 (Or.inl (hw _ (List.mem_of_getElem? (i := 159) rfl))) (hw _ (List.mem_of_getElem? (i := 1) rfl)) (ty := .int) (by decide) rfl rfl (g := (mkF m 8 #[.val (.ref o0)] [(.int (w_o0_tallies + (1 : Int32))), (.ref o0), (.int w_o0_tallies)])) rfl rfl (hb hby own_dnt_8)
  have N2 := Fr.snoc X2 N0 low_o0
  have K2 := Keep.wr K0 W2 (Or.inl (List.mem_of_getElem? (i := 0) rfl))
  have F2 := F_o0_tallies.same W2
  refine own_st (fun _ => st2 _) ?_
  show own_End p e below P (T2.setTop (mkF m 11 #[.val (.ref o0)] [(.int w_o0_tallies)]))
  have G3 := (E_o0.wr W2)
  have G4 := (F_o0_root.other W2 (Or.inr (slot_ne (Or.inr (hw _ (List.mem_of_getElem? (i := 113) rfl))) (Or.inl (hw _ (List.mem_of_getElem? (i := 159) rfl))) (by decide) (t := (.object "com/example/tallywire/tallywire/rules/PathNode")) (t' := .int) (by decide) (by decide))))
  have G5 := (F_o0_facts.other W2 (Or.inr (slot_ne (Or.inl (hw _ (List.mem_of_getElem? (i := 157) rfl))) (Or.inl (hw _ (List.mem_of_getElem? (i := 159) rfl))) (by decide) (t := .int) (t' := .int) (by decide) (by decide))))
  have hfin : ((fun (v : Option Value) (h : Heap) (L : List Loc) => v = some (.int w_o0_tallies) ∧ Fr n0 L ∧ Keep h0 h [o0] ∧ Exa Z h o0 "com/example/tallywire/tallywire/rules/GuidelineTree" ∧ Fld Z h o0 "com/example/tallywire/tallywire/rules/GuidelineTree" "root" "Lcom/example/tallywire/tallywire/rules/PathNode;" (.ref w_o0_root) ∧ Fld Z h o0 "com/example/tallywire/tallywire/rules/GuidelineTree" "facts" "I" (.int w_o0_facts) ∧ Fld Z h o0 "com/example/tallywire/tallywire/rules/GuidelineTree" "tallies" "I" (.int (w_o0_tallies + (1 : Int32))))) (some (.int w_o0_tallies)) h2 _ := ⟨rfl, N2, K2, G3, G4, G5, F2⟩
  refine own_retI X2 hx hlk hP hrt (hb hby own_dnt_11) (by decide) (by decide) ?_
  rw [e2]; exact hfin
theorem own_k (p : Int32) : 0 ≤ (p &&& (3 : Int32)).toInt ∧ (p &&& (3 : Int32)).toInt ≤ 3 := by
  rw [Jvm.Kit.i32_mask p 3 (k := 2) (by decide) (by decide)]; omega
theorem own_up {k a b : Int32} (h : k < a) (q : a.toInt < b.toInt) : k < b := by rw [Int32.lt_iff_toInt_lt] at h ⊢; omega
theorem own_eqk {k n : Int32} (h : n.toInt = k.toInt) : n = k := Int32.toInt_inj.mp h
theorem own_lo {k a : Int32} (h : ¬ k < a) : a.toInt ≤ k.toInt := by rw [Int32.lt_iff_toInt_lt] at h; omega
theorem own_hi {k a : Int32} (h : k < a) : k.toInt < a.toInt := by rw [Int32.lt_iff_toInt_lt] at h; exact h
theorem own_c : (0 : Int32).toInt = 0 ∧ (1 : Int32).toInt = 1 ∧ (2 : Int32).toInt = 2 ∧ (3 : Int32).toInt = 3 := by decide
theorem own_pd_Lcom_example_tallywire_tallywire_rules_LineReader__V_139 : parseMethodDescriptor "(Lcom/example/tallywire/tallywire/rules/LineReader;)V" = some ⟨[(.object "com/example/tallywire/tallywire/rules/LineReader")], none⟩ := by decide +kernel
theorem own_pd_Lcom_example_tallywire_tallywire_rules_Layer_572 : parseMethodDescriptor "()Lcom/example/tallywire/tallywire/rules/Layer;" = some ⟨[], some (.object "com/example/tallywire/tallywire/rules/Layer")⟩ := by decide +kernel
theorem own_pd_I_154 : parseMethodDescriptor "()I" = some ⟨[], some .int⟩ := by decide +kernel
theorem own_ef0 (m : MethodId) (p0 : Int32) : entryFrame m #[(.int p0)] maxLocals = mkF m 0 #[.val (.int p0), .unset, .unset, .unset, .unset, .unset] [] := by first | (simp [entryFrame, mkF, argsToLocals, Value.category, maxLocals]; done) | rfl
theorem own_pn_com_example_tallywire_tallywire_rules_GuidelineTreeNextTallyPinLaw : plainName "com/example/tallywire/tallywire/rules/GuidelineTreeNextTallyPinLaw" = true := by first | (simp [plainName, overriddenIn]; done) | decide +kernel
set_option maxRecDepth 65536 in
set_option maxHeartbeats 40000000 in
theorem own_m0 (l : Launch) (Z : State) (a0 : Array Value) (hw : ∀ d ∈ tables_1, d.before a0 Z = true) (ws : List Jvm.Cond) (p0 : Int32) (s_ArrayList_DEFAULTCAPACITY_EMPTY_ELEMENTDATA : Addr) (s_ImmutableCollections_EMPTY_SET : Addr) (h0 : Heap) (n0 : Nat) (Z0 : n0 ≤ h0.size) (E_s_ImmutableCollections_EMPTY_SET : Exa Z h0 s_ImmutableCollections_EMPTY_SET "java/util/ImmutableCollections$SetN") (S_ArrayList_DEFAULTCAPACITY_EMPTY_ELEMENTDATA : Sta Z h0 "java/util/ArrayList" "DEFAULTCAPACITY_EMPTY_ELEMENTDATA" "[Ljava/lang/Object;" (.ref s_ArrayList_DEFAULTCAPACITY_EMPTY_ELEMENTDATA)) (S_ImmutableCollections_EMPTY_SET : Sta Z h0 "java/util/ImmutableCollections" "EMPTY_SET" "Ljava/util/ImmutableCollections$SetN;" (.ref s_ImmutableCollections_EMPTY_SET)) :
    own_MetW l Z x code maxLocals ret ws room_1 #[(.int p0)] h0 (fun (v : Option Value) (h : Heap) (L : List Loc) => v = some (.int 1) ∧ Fr n0 L) := by
  refine own_enterW (plainFor_of_name own_pn_com_example_tallywire_tallywire_rules_GuidelineTreeNextTallyPinLaw) ?_
  intro p e s m below meth c s₁ P vm0 k0 hx hby hml hrt hlk hown hnm hZ X0 e0 hS hk hP
  have N0 := Fr.nil n0
  have K0 := Keep.refl h0 []
  have hml' : c.maxLocals = 6 := hml
  refine own_cast (own_ef0 m p0) ?_
  show own_End p e below P (s₁.setTop (mkF m 0 #[.val (.int p0), .unset, .unset, .unset, .unset, .unset] []))
  refine own_st (fun _ => XS.iloadN X0.here hx rfl (hb hby at_0) rfl) ?_
  show own_End p e below P (s₁.setTop (mkF m 1 #[.val (.int p0), .unset, .unset, .unset, .unset, .unset] [(.int p0)]))
  refine own_st (fun _ => XS.iconst X0.here hx rfl (hb hby at_1)) ?_
  show own_End p e below P (s₁.setTop (mkF m 2 #[.val (.int p0), .unset, .unset, .unset, .unset, .unset] [(.int (3 : Int32)), (.int p0)]))
  refine own_st (fun _ => XS.iand X0.here hx rfl (hb hby at_2) rfl) ?_
  show own_End p e below P (s₁.setTop (mkF m 3 #[.val (.int p0), .unset, .unset, .unset, .unset, .unset] [(.int (p0 &&& (3 : Int32)))]))
  obtain ⟨k, e_k⟩ : ∃ z : Int32, z = (p0 &&& (3 : Int32)) := ⟨_, rfl⟩
  have hkk := own_k p0
  rw [← e_k] at hkk ⊢
  show own_End p e below P (s₁.setTop (mkF m 3 #[.val (.int p0), .unset, .unset, .unset, .unset, .unset] [(.int k)]))
  refine own_st (fun _ => XS.istoreN X0.here hx rfl (hb hby at_3) rfl (l' := #[.val (.int p0), .val (.int k), .unset, .unset, .unset, .unset]) rfl) ?_
  show own_End p e below P (s₁.setTop (mkF m 4 #[.val (.int p0), .val (.int k), .unset, .unset, .unset, .unset] []))
  obtain ⟨T1, h1, X1, e1, E1, A1, D1, -, st1⟩ := newO X0 hx hZ hown (hw _ (List.mem_of_getElem? (i := 0) rfl)) (hw _ (List.mem_of_getElem? (i := 1) rfl)) (hw _ (List.mem_of_getElem? (i := 2) rfl)) e0 (g := (mkF m 4 #[.val (.int p0), .val (.int k), .unset, .unset, .unset, .unset] [])) rfl (hb hby at_4) (by decide) (by decide)
  obtain ⟨b1, g1⟩ : ∃ z, z = h0.size := ⟨_, rfl⟩
  rw [← g1] at A1 D1 st1
  have ne2 : s_ImmutableCollections_EMPTY_SET ≠ b1 := Nat.ne_of_lt (Nat.lt_of_lt_of_le E_s_ImmutableCollections_EMPTY_SET.lt (Nat.le_of_eq g1.symm))
  have low_b1 : n0 ≤ b1 := Nat.le_trans (Nat.le_trans Z0 K0.1) (Nat.le_of_eq g1.symm)
  have sz_b1 : h0.size ≤ b1 := Nat.le_trans K0.1 (Nat.le_of_eq g1.symm)
  have K1 := Keep.ext K0 E1
  have F_b1_root : Fld Z h1 b1 "com/example/tallywire/tallywire/rules/GuidelineTree" "root" "Lcom/example/tallywire/tallywire/rules/PathNode;" .null := D1 (Or.inr (hw _ (List.mem_of_getElem? (i := 113) rfl))) (ty := (.object "com/example/tallywire/tallywire/rules/PathNode")) (by decide)
  have F_b1_givenOn : Fld Z h1 b1 "com/example/tallywire/tallywire/rules/GuidelineTree" "givenOn" "Ljava/util/Map;" .null := D1 (Or.inr (hw _ (List.mem_of_getElem? (i := 120) rfl))) (ty := (.object "java/util/Map")) (by decide)
  have F_b1_touchedOn : Fld Z h1 b1 "com/example/tallywire/tallywire/rules/GuidelineTree" "touchedOn" "Ljava/util/Map;" .null := D1 (Or.inr (hw _ (List.mem_of_getElem? (i := 139) rfl))) (ty := (.object "java/util/Map")) (by decide)
  have F_b1_removedOn : Fld Z h1 b1 "com/example/tallywire/tallywire/rules/GuidelineTree" "removedOn" "Ljava/util/Map;" .null := D1 (Or.inr (hw _ (List.mem_of_getElem? (i := 141) rfl))) (ty := (.object "java/util/Map")) (by decide)
  have F_b1_named : Fld Z h1 b1 "com/example/tallywire/tallywire/rules/GuidelineTree" "named" "Ljava/util/Map;" .null := D1 (Or.inr (hw _ (List.mem_of_getElem? (i := 145) rfl))) (ty := (.object "java/util/Map")) (by decide)
  have F_b1_lines : Fld Z h1 b1 "com/example/tallywire/tallywire/rules/GuidelineTree" "lines" "Lcom/example/tallywire/tallywire/rules/LineReader;" .null := D1 (Or.inr (hw _ (List.mem_of_getElem? (i := 147) rfl))) (ty := (.object "com/example/tallywire/tallywire/rules/LineReader")) (by decide)
  have F_b1_facts : Fld Z h1 b1 "com/example/tallywire/tallywire/rules/GuidelineTree" "facts" "I" (.int (0 : Int32)) := D1 (Or.inl (hw _ (List.mem_of_getElem? (i := 157) rfl))) (ty := .int) (by decide)
  have F_b1_tallies : Fld Z h1 b1 "com/example/tallywire/tallywire/rules/GuidelineTree" "tallies" "I" (.int (0 : Int32)) := D1 (Or.inl (hw _ (List.mem_of_getElem? (i := 159) rfl))) (ty := .int) (by decide)
  refine own_st (fun _ => st1 _) ?_
  show own_End p e below P (T1.setTop (mkF m 7 #[.val (.int p0), .val (.int k), .unset, .unset, .unset, .unset] [(.ref b1)]))
  refine own_st (fun _ => XS.dup X1.here hx rfl (hb hby at_7) rfl rfl) ?_
  show own_End p e below P (T1.setTop (mkF m 8 #[.val (.int p0), .val (.int k), .unset, .unset, .unset, .unset] [(.ref b1), (.ref b1)]))
  obtain ⟨T3, h3, X3, e3, E3, A3, D3, -, st3⟩ := newO X1 hx hZ hown (hw _ (List.mem_of_getElem? (i := 3) rfl)) (hw _ (List.mem_of_getElem? (i := 4) rfl)) (hw _ (List.mem_of_getElem? (i := 5) rfl)) e1 (g := (mkF m 8 #[.val (.int p0), .val (.int k), .unset, .unset, .unset, .unset] [(.ref b1), (.ref b1)])) rfl (hb hby at_8) (by decide) (by decide)
  obtain ⟨b3, g3⟩ : ∃ z, z = h1.size := ⟨_, rfl⟩
  rw [← g3] at A3 D3 st3
  have ne4 : b1 ≠ b3 := Nat.ne_of_lt (Nat.lt_of_lt_of_le A1.lt (Nat.le_of_eq g3.symm))
  have G6 := (E_s_ImmutableCollections_EMPTY_SET.ext E1)
  have ne5 : s_ImmutableCollections_EMPTY_SET ≠ b3 := Nat.ne_of_lt (Nat.lt_of_lt_of_le G6.lt (Nat.le_of_eq g3.symm))
  have low_b3 : n0 ≤ b3 := Nat.le_trans (Nat.le_trans Z0 K1.1) (Nat.le_of_eq g3.symm)
  have sz_b3 : h0.size ≤ b3 := Nat.le_trans K1.1 (Nat.le_of_eq g3.symm)
  have K3 := Keep.ext K1 E3
  have F_b3_name : Fld Z h3 b3 "com/example/tallywire/tallywire/rules/LineReader" "name" "Ljava/lang/String;" .null := D3 (Or.inr (hw _ (List.mem_of_getElem? (i := 21) rfl))) (ty := (.object "java/lang/String")) (by decide)
  refine own_st (fun _ => st3 _) ?_
  show own_End p e below P (T3.setTop (mkF m 11 #[.val (.int p0), .val (.int k), .unset, .unset, .unset, .unset] [(.ref b3), (.ref b1), (.ref b1)]))
  refine own_st (fun _ => XS.dup X3.here hx rfl (hb hby at_11) rfl rfl) ?_
  show own_End p e below P (T3.setTop (mkF m 12 #[.val (.int p0), .val (.int k), .unset, .unset, .unset, .unset] [(.ref b3), (.ref b3), (.ref b1), (.ref b1)]))
  have G8 := (Nat.le_trans (Nat.le_trans hk E1.1) E3.1)
  obtain ⟨a7, T7, h7, k7, X7, e7, E7, hS, hk7, hZ, hown, st7⟩ := ldcS X3 hx hZ hown (hw _ (List.mem_of_getElem? (i := 6) rfl)) (own_wS hw) e3 hS G8 (g := (mkF m 12 #[.val (.int p0), .val (.int k), .unset, .unset, .unset, .unset] [(.ref b3), (.ref b3), (.ref b1), (.ref b1)])) rfl (hb hby at_12) (n := 4) (by decide) (by decide) (by decide) (by decide)
  have K7 := Keep.ext K3 E7
  refine own_st (fun _ => st7 _) ?_
  show own_End p e below P (T7.setTop (mkF m 14 #[.val (.int p0), .val (.int k), .unset, .unset, .unset, .unset] [(.ref a7), (.ref b3), (.ref b3), (.ref b1), (.ref b1)]))
  have G10 := (A3.ext E7)
  have G11 := (F_b3_name.ext E7)
  refine own_callI X7 hx hZ (y := (⟨"com/example/tallywire/tallywire/rules/LineReader", "<init>", "(Ljava/lang/String;)V"⟩ : MethodName)) rfl hown (hw _ (List.mem_of_getElem? (i := 14) rfl)) (hw _ (List.mem_of_getElem? (i := 15) rfl)) (hw _ (List.mem_of_getElem? (i := 5) rfl)) (hw _ (List.mem_of_getElem? (i := 16) rfl)) (by decide) (own_m4 l Z a0 hw [] b3 a7  h7 n0 (Nat.le_trans Z0 K7.1) G10 G11 low_b3) 3 (by decide) (by decide) e7 (by decide) (by decide) (g := (mkF m 14 #[.val (.int p0), .val (.int k), .unset, .unset, .unset, .unset] [(.ref a7), (.ref b3), (.ref b3), (.ref b1), (.ref b1)])) rfl (by rw [hml']; rfl) (a := b3) (argsL := [(.ref a7)]) (rest := [(.ref b3), (.ref b1), (.ref b1)]) rfl (lenOf own_pd_Ljava_lang_String__V_866 rfl) rfl (by show 2 * 0 + _ ≤ _; exact Nat.le_of_eq rfl) (hb hby at_14) (fun r9 T9 L9 X9 hQ9 => ?_)
  obtain ⟨rfl, Nq9, Kq9, f0_9⟩ := hQ9
  have N9 := Fr.app N0 Nq9
  have K9 := Keep.trans K7 Kq9 (allS (Or.inr sz_b3) all0)
  show own_End p e below P (T9.setTop (mkF m 17 #[.val (.int p0), .val (.int k), .unset, .unset, .unset, .unset] [(.ref b3), (.ref b1), (.ref b1)]))
  have G13 := (((A1.ext E3).ext E7).keep Kq9)
  have G14 := (((F_b1_root.ext E3).ext E7).keep Kq9 (ninS ne4 nin0))
  have G15 := (((F_b1_givenOn.ext E3).ext E7).keep Kq9 (ninS ne4 nin0))
  have G16 := (((F_b1_touchedOn.ext E3).ext E7).keep Kq9 (ninS ne4 nin0))
  have G17 := (((F_b1_removedOn.ext E3).ext E7).keep Kq9 (ninS ne4 nin0))
  have G18 := (((F_b1_named.ext E3).ext E7).keep Kq9 (ninS ne4 nin0))
  have G19 := (((F_b1_lines.ext E3).ext E7).keep Kq9 (ninS ne4 nin0))
  have G20 := (((F_b1_facts.ext E3).ext E7).keep Kq9 (ninS ne4 nin0))
  have G21 := (((F_b1_tallies.ext E3).ext E7).keep Kq9 (ninS ne4 nin0))
  have G22 := (own_StaKeep (((S_ArrayList_DEFAULTCAPACITY_EMPTY_ELEMENTDATA.ext E1).ext E3).ext E7) Kq9 (allS (own_nst G10) all0))
  have G23 := (Nat.le_trans hk7 Kq9.1)
  refine own_callIW X9 hS G23 hx hZ (y := (⟨"com/example/tallywire/tallywire/rules/GuidelineTree", "<init>", "(Lcom/example/tallywire/tallywire/rules/LineReader;)V"⟩ : MethodName)) rfl hown (hw _ (List.mem_of_getElem? (i := 22) rfl)) (hw _ (List.mem_of_getElem? (i := 23) rfl)) (hw _ (List.mem_of_getElem? (i := 2) rfl)) (hw _ (List.mem_of_getElem? (i := 24) rfl)) (by decide) (own_mgt l Z a0 hw [] b1 b3 s_ArrayList_DEFAULTCAPACITY_EMPTY_ELEMENTDATA T9.heap n0 (Nat.le_trans Z0 K9.1) G13 G14 G15 G16 G17 G18 G19 G20 G21 G22 low_b1) 1 (by decide) (by decide) rfl (by decide) (by decide) (g := (mkF m 17 #[.val (.int p0), .val (.int k), .unset, .unset, .unset, .unset] [(.ref b3), (.ref b1), (.ref b1)])) rfl (by rw [hml']; rfl) (a := b1) (argsL := [(.ref b3)]) (rest := [(.ref b1)]) rfl (lenOf own_pd_Lcom_example_tallywire_tallywire_rules_LineReader__V_139 rfl) rfl (by show 2 * 0 + _ ≤ _; exact Nat.le_of_eq rfl) (hb hby at_17) (fun r12 T12 L12 X12 hQ12 hS hZ hown => ?_)
  obtain ⟨b2_12, rfl, Nq12, Kq12, szq_b2_12, low_b2_12, f0_12, f1_12, f2_12, f3_12⟩ := hQ12
  have N12 := Fr.app N9 Nq12
  have ne24 : b1 ≠ b2_12 := Nat.ne_of_lt (Nat.lt_of_lt_of_le G13.lt szq_b2_12)
  have ne25 : b3 ≠ b2_12 := Nat.ne_of_lt (Nat.lt_of_lt_of_le f0_9.lt szq_b2_12)
  have G26 := (((G6.ext E3).ext E7).keep Kq9)
  have ne27 : s_ImmutableCollections_EMPTY_SET ≠ b2_12 := Nat.ne_of_lt (Nat.lt_of_lt_of_le G26.lt szq_b2_12)
  have sz_b2_12 := Nat.le_trans K9.1 szq_b2_12
  have K12 := Keep.trans K9 Kq12 (allS (Or.inr sz_b1) all0)
  have hk12 : T12.heap.size ≤ T12.heap.size := Nat.le_refl _
  show own_End p e below P (T12.setTop (mkF m 20 #[.val (.int p0), .val (.int k), .unset, .unset, .unset, .unset] [(.ref b1)]))
  refine own_st (fun _ => XS.astoreN X12.here hx rfl (hb hby at_20) rfl rfl (l' := #[.val (.int p0), .val (.int k), .val (.ref b1), .unset, .unset, .unset]) rfl) ?_
  show own_End p e below P (T12.setTop (mkF m 21 #[.val (.int p0), .val (.int k), .val (.ref b1), .unset, .unset, .unset] []))
  refine own_st (fun _ => XS.iconst X12.here hx rfl (hb hby at_21)) ?_
  show own_End p e below P (T12.setTop (mkF m 22 #[.val (.int p0), .val (.int k), .val (.ref b1), .unset, .unset, .unset] [(.int (1 : Int32))]))
  refine own_st (fun _ => XS.istoreN X12.here hx rfl (hb hby at_22) rfl (l' := #[.val (.int p0), .val (.int k), .val (.ref b1), .val (.int (1 : Int32)), .unset, .unset]) rfl) ?_
  show own_End p e below P (T12.setTop (mkF m 23 #[.val (.int p0), .val (.int k), .val (.ref b1), .val (.int (1 : Int32)), .unset, .unset] []))
  refine own_st (fun _ => XS.iloadN X12.here hx rfl (hb hby at_23) rfl) ?_
  show own_End p e below P (T12.setTop (mkF m 24 #[.val (.int p0), .val (.int k), .val (.ref b1), .val (.int (1 : Int32)), .unset, .unset] [(.int k)]))
  refine own_st (fun _ => XS.iconst X12.here hx rfl (hb hby at_24)) ?_
  show own_End p e below P (T12.setTop (mkF m 25 #[.val (.int p0), .val (.int k), .val (.ref b1), .val (.int (1 : Int32)), .unset, .unset] [(.int (1 : Int32)), (.int k)]))
  by_cases hc28 : k < (1 : Int32)
  · refine own_st (fun _ => XS.icmpYes X12.here hx rfl (pc0 := 25) (pc' := 43) rfl (hb hby at_25) rfl (tlt hc28).1 (by decide) (by decide)) ?_
    show own_End p e below P (T12.setTop (mkF m 43 #[.val (.int p0), .val (.int k), .val (.ref b1), .val (.int (1 : Int32)), .unset, .unset] []))
    refine own_st (fun _ => XS.iloadN X12.here hx rfl (hb hby at_43) rfl) ?_
    show own_End p e below P (T12.setTop (mkF m 44 #[.val (.int p0), .val (.int k), .val (.ref b1), .val (.int (1 : Int32)), .unset, .unset] [(.int k)]))
    refine own_st (fun _ => XS.iconst X12.here hx rfl (hb hby at_44)) ?_
    show own_End p e below P (T12.setTop (mkF m 45 #[.val (.int p0), .val (.int k), .val (.ref b1), .val (.int (1 : Int32)), .unset, .unset] [(.int (2 : Int32)), (.int k)]))
    have hd29 : k < (2 : Int32) := by exact own_up hc28 (by decide)
    refine own_st (fun _ => XS.icmpYes X12.here hx rfl (pc0 := 45) (pc' := 64) rfl (hb hby at_45) rfl (tlt hd29).1 (by decide) (by decide)) ?_
    show own_End p e below P (T12.setTop (mkF m 64 #[.val (.int p0), .val (.int k), .val (.ref b1), .val (.int (1 : Int32)), .unset, .unset] []))
    refine own_st (fun _ => XS.iloadN X12.here hx rfl (hb hby at_64) rfl) ?_
    show own_End p e below P (T12.setTop (mkF m 65 #[.val (.int p0), .val (.int k), .val (.ref b1), .val (.int (1 : Int32)), .unset, .unset] [(.int k)]))
    refine own_st (fun _ => XS.iconst X12.here hx rfl (hb hby at_65)) ?_
    show own_End p e below P (T12.setTop (mkF m 66 #[.val (.int p0), .val (.int k), .val (.ref b1), .val (.int (1 : Int32)), .unset, .unset] [(.int (3 : Int32)), (.int k)]))
    have hd30 : k < (3 : Int32) := by exact own_up hd29 (by decide)
    refine own_st (fun _ => XS.icmpYes X12.here hx rfl (pc0 := 66) (pc' := 85) rfl (hb hby at_66) rfl (tlt hd30).1 (by decide) (by decide)) ?_
    show own_End p e below P (T12.setTop (mkF m 85 #[.val (.int p0), .val (.int k), .val (.ref b1), .val (.int (1 : Int32)), .unset, .unset] []))
    have hb0 := own_hi hc28
    have hcc := own_c
    have hkv : (0 : Int32) = k := own_eqk (by omega)
    subst hkv
    show own_End p e below P (T12.setTop (mkF m 85 #[.val (.int p0), .val (.int (0 : Int32)), .val (.ref b1), .val (.int (1 : Int32)), .unset, .unset] []))
    refine own_st (fun _ => XS.aloadN X12.here hx rfl (hb hby at_85) rfl rfl) ?_
    show own_End p e below P (T12.setTop (mkF m 86 #[.val (.int p0), .val (.int (0 : Int32)), .val (.ref b1), .val (.int (1 : Int32)), .unset, .unset] [(.ref b1)]))
    have G32 := (G26.keep Kq12)
    have G33 := (own_StaKeep (own_StaKeep (((S_ImmutableCollections_EMPTY_SET.ext E1).ext E3).ext E7) Kq9 (allS (own_nst G10) all0)) Kq12 (allS (own_nst G13) all0))
    refine own_callV X12 hx hZ (y := (⟨"com/example/tallywire/tallywire/rules/GuidelineTree", "layer", "()Lcom/example/tallywire/tallywire/rules/Layer;"⟩ : MethodName)) (z := (⟨"com/example/tallywire/tallywire/rules/GuidelineTree", "layer", "()Lcom/example/tallywire/tallywire/rules/Layer;"⟩ : MethodName)) hown (hw _ (List.mem_of_getElem? (i := 148) rfl)) (hw _ (List.mem_of_getElem? (i := 149) rfl)) (notFace_of_selects (args := #[]) (mvT hZ (hw _ (List.mem_of_getElem? (i := 151) rfl)))) (hw _ (List.mem_of_getElem? (i := 151) rfl)) (hw _ (List.mem_of_getElem? (i := 150) rfl)) (hw _ (List.mem_of_getElem? (i := 2) rfl)) (hw _ (List.mem_of_getElem? (i := 152) rfl)) (by decide) f0_12 (own_mlayer l Z a0 hw [] b1 b2_12 (0 : Int32) (0 : Int32) s_ImmutableCollections_EMPTY_SET T12.heap n0 (Nat.le_trans Z0 K12.1) G32 f1_12 f2_12 f3_12 G33) 0 (by decide) (by decide) rfl (by decide) (by decide) (g := (mkF m 86 #[.val (.int p0), .val (.int (0 : Int32)), .val (.ref b1), .val (.int (1 : Int32)), .unset, .unset] [(.ref b1)])) rfl (by rw [hml']; rfl) (argsL := []) (rest := []) rfl (lenOf own_pd_Lcom_example_tallywire_tallywire_rules_Layer_572 rfl) rfl (by show 2 * 0 + _ ≤ _; exact Nat.le_of_eq rfl) (hb hby at_86) (fun r31 T31 L31 X31 hQ31 => ?_)
    obtain ⟨b1_31, rfl, Nq31, Kq31, szq_b1_31, low_b1_31, f0_31, f1_31, f2_31⟩ := hQ31
    have N31 := Fr.app N12 Nq31
    have ne34 : b1 ≠ b1_31 := Nat.ne_of_lt (Nat.lt_of_lt_of_le f0_12.lt szq_b1_31)
    have G35 := (f0_9.keep Kq12)
    have ne36 : b3 ≠ b1_31 := Nat.ne_of_lt (Nat.lt_of_lt_of_le G35.lt szq_b1_31)
    have ne37 : s_ImmutableCollections_EMPTY_SET ≠ b1_31 := Nat.ne_of_lt (Nat.lt_of_lt_of_le G32.lt szq_b1_31)
    have sz_b1_31 := Nat.le_trans K12.1 szq_b1_31
    have K31 := Keep.trans K12 Kq31 all0
    show own_End p e below P (T31.setTop (mkF m 89 #[.val (.int p0), .val (.int (0 : Int32)), .val (.ref b1), .val (.int (1 : Int32)), .unset, .unset] [(.ref b1_31)]))
    refine own_st (fun _ => XS.astore X31.here hx rfl (hb hby at_89) rfl rfl (l' := #[.val (.int p0), .val (.int (0 : Int32)), .val (.ref b1), .val (.int (1 : Int32)), .val (.ref b1_31), .unset]) rfl) ?_
    show own_End p e below P (T31.setTop (mkF m 91 #[.val (.int p0), .val (.int (0 : Int32)), .val (.ref b1), .val (.int (1 : Int32)), .val (.ref b1_31), .unset] []))
    refine own_st (fun _ => XS.iloadN X31.here hx rfl (hb hby at_91) rfl) ?_
    show own_End p e below P (T31.setTop (mkF m 92 #[.val (.int p0), .val (.int (0 : Int32)), .val (.ref b1), .val (.int (1 : Int32)), .val (.ref b1_31), .unset] [(.int (1 : Int32))]))
    refine own_st (fun _ => XS.aload X31.here hx rfl (hb hby at_92) rfl rfl) ?_
    show own_End p e below P (T31.setTop (mkF m 94 #[.val (.int p0), .val (.int (0 : Int32)), .val (.ref b1), .val (.int (1 : Int32)), .val (.ref b1_31), .unset] [(.ref b1_31), (.int (1 : Int32))]))
    refine own_callV X31 hx hZ (y := (⟨"com/example/tallywire/tallywire/rules/Layer", "tallies", "()I"⟩ : MethodName)) (z := (⟨"com/example/tallywire/tallywire/rules/Layer", "tallies", "()I"⟩ : MethodName)) hown (hw _ (List.mem_of_getElem? (i := 190) rfl)) (hw _ (List.mem_of_getElem? (i := 191) rfl)) (notFace_of_selects (args := #[]) (mvT hZ (hw _ (List.mem_of_getElem? (i := 193) rfl)))) (hw _ (List.mem_of_getElem? (i := 193) rfl)) (hw _ (List.mem_of_getElem? (i := 192) rfl)) (hw _ (List.mem_of_getElem? (i := 155) rfl)) (hw _ (List.mem_of_getElem? (i := 194) rfl)) (by decide) f0_31 (own_mlt l Z a0 hw [] b1_31 (0 : Int32) T31.heap n0 (Nat.le_trans Z0 K31.1) f2_31) 1 (by decide) (by decide) rfl (by decide) (by decide) (g := (mkF m 94 #[.val (.int p0), .val (.int (0 : Int32)), .val (.ref b1), .val (.int (1 : Int32)), .val (.ref b1_31), .unset] [(.ref b1_31), (.int (1 : Int32))])) rfl (by rw [hml']; rfl) (argsL := []) (rest := [(.int (1 : Int32))]) rfl (lenOf own_pd_I_154 rfl) rfl (by show 2 * 0 + _ ≤ _; exact Nat.le_of_eq rfl) (hb hby at_94) (fun r38 T38 L38 X38 hQ38 => ?_)
    obtain ⟨rfl, Nq38, eq38⟩ := hQ38
    have N38 := Fr.app N31 Nq38
    show own_End p e below P (T38.setTop (mkF m 97 #[.val (.int p0), .val (.int (0 : Int32)), .val (.ref b1), .val (.int (1 : Int32)), .val (.ref b1_31), .unset] [(.int (own_flt (0 : Int32))), (.int (1 : Int32))]))
    refine own_st (fun _ => XS.iloadN X38.here hx rfl (hb hby at_97) rfl) ?_
    show own_End p e below P (T38.setTop (mkF m 98 #[.val (.int p0), .val (.int (0 : Int32)), .val (.ref b1), .val (.int (1 : Int32)), .val (.ref b1_31), .unset] [(.int (0 : Int32)), (.int (own_flt (0 : Int32))), (.int (1 : Int32))]))
    have hd39 : (own_flt (0 : Int32)) = (0 : Int32) := by decide
    refine own_st (fun _ => XS.icmpNo X38.here hx rfl (hb hby at_98) rfl (teq hd39).2) ?_
    show own_End p e below P (T38.setTop (mkF m 101 #[.val (.int p0), .val (.int (0 : Int32)), .val (.ref b1), .val (.int (1 : Int32)), .val (.ref b1_31), .unset] [(.int (1 : Int32))]))
    refine own_st (fun _ => XS.iconst X38.here hx rfl (hb hby at_101)) ?_
    show own_End p e below P (T38.setTop (mkF m 102 #[.val (.int p0), .val (.int (0 : Int32)), .val (.ref b1), .val (.int (1 : Int32)), .val (.ref b1_31), .unset] [(.int (1 : Int32)), (.int (1 : Int32))]))
    refine own_st (fun _ => XS.goto X38.here hx rfl (pc0 := 102) (pc' := 106) rfl (hb hby at_102) (by decide) (by decide)) ?_
    show own_End p e below P (T38.setTop (mkF m 106 #[.val (.int p0), .val (.int (0 : Int32)), .val (.ref b1), .val (.int (1 : Int32)), .val (.ref b1_31), .unset] [(.int (1 : Int32)), (.int (1 : Int32))]))
    refine own_st (fun _ => XS.iand X38.here hx rfl (hb hby at_106) rfl) ?_
    show own_End p e below P (T38.setTop (mkF m 107 #[.val (.int p0), .val (.int (0 : Int32)), .val (.ref b1), .val (.int (1 : Int32)), .val (.ref b1_31), .unset] [(.int (1 : Int32))]))
    refine own_st (fun _ => XS.istoreN X38.here hx rfl (hb hby at_107) rfl (l' := #[.val (.int p0), .val (.int (0 : Int32)), .val (.ref b1), .val (.int (1 : Int32)), .val (.ref b1_31), .unset]) rfl) ?_
    show own_End p e below P (T38.setTop (mkF m 108 #[.val (.int p0), .val (.int (0 : Int32)), .val (.ref b1), .val (.int (1 : Int32)), .val (.ref b1_31), .unset] []))
    refine own_st (fun _ => XS.iloadN X38.here hx rfl (hb hby at_108) rfl) ?_
    show own_End p e below P (T38.setTop (mkF m 109 #[.val (.int p0), .val (.int (0 : Int32)), .val (.ref b1), .val (.int (1 : Int32)), .val (.ref b1_31), .unset] [(.int (1 : Int32))]))
    refine own_st (fun _ => XS.aload X38.here hx rfl (hb hby at_109) rfl rfl) ?_
    show own_End p e below P (T38.setTop (mkF m 111 #[.val (.int p0), .val (.int (0 : Int32)), .val (.ref b1), .val (.int (1 : Int32)), .val (.ref b1_31), .unset] [(.ref b1_31), (.int (1 : Int32))]))
    refine own_callV X38 hx hZ (y := (⟨"com/example/tallywire/tallywire/rules/Layer", "facts", "()I"⟩ : MethodName)) (z := (⟨"com/example/tallywire/tallywire/rules/Layer", "facts", "()I"⟩ : MethodName)) hown (hw _ (List.mem_of_getElem? (i := 195) rfl)) (hw _ (List.mem_of_getElem? (i := 196) rfl)) (notFace_of_selects (args := #[]) (mvT hZ (hw _ (List.mem_of_getElem? (i := 198) rfl)))) (hw _ (List.mem_of_getElem? (i := 198) rfl)) (hw _ (List.mem_of_getElem? (i := 197) rfl)) (hw _ (List.mem_of_getElem? (i := 155) rfl)) (hw _ (List.mem_of_getElem? (i := 199) rfl)) (by decide) f0_31 (own_mlf l Z a0 hw [] b1_31 (0 : Int32) T31.heap n0 (Nat.le_trans Z0 K31.1) f1_31) 1 (by decide) (by decide) eq38 (by decide) (by decide) (g := (mkF m 111 #[.val (.int p0), .val (.int (0 : Int32)), .val (.ref b1), .val (.int (1 : Int32)), .val (.ref b1_31), .unset] [(.ref b1_31), (.int (1 : Int32))])) rfl (by rw [hml']; rfl) (argsL := []) (rest := [(.int (1 : Int32))]) rfl (lenOf own_pd_I_154 rfl) rfl (by show 2 * 0 + _ ≤ _; exact Nat.le_of_eq rfl) (hb hby at_111) (fun r40 T40 L40 X40 hQ40 => ?_)
    obtain ⟨rfl, Nq40, eq40⟩ := hQ40
    have N40 := Fr.app N38 Nq40
    show own_End p e below P (T40.setTop (mkF m 114 #[.val (.int p0), .val (.int (0 : Int32)), .val (.ref b1), .val (.int (1 : Int32)), .val (.ref b1_31), .unset] [(.int (own_flf (0 : Int32))), (.int (1 : Int32))]))
    have hd41 : (own_flf (0 : Int32)) = (0 : Int32) := by decide
    refine own_st (fun _ => XS.ifNo X40.here hx rfl (hb hby at_114) rfl ((if0 _ _).trans (teq hd41).2)) ?_
    show own_End p e below P (T40.setTop (mkF m 117 #[.val (.int p0), .val (.int (0 : Int32)), .val (.ref b1), .val (.int (1 : Int32)), .val (.ref b1_31), .unset] [(.int (1 : Int32))]))
    refine own_st (fun _ => XS.iconst X40.here hx rfl (hb hby at_117)) ?_
    show own_End p e below P (T40.setTop (mkF m 118 #[.val (.int p0), .val (.int (0 : Int32)), .val (.ref b1), .val (.int (1 : Int32)), .val (.ref b1_31), .unset] [(.int (1 : Int32)), (.int (1 : Int32))]))
    refine own_st (fun _ => XS.goto X40.here hx rfl (pc0 := 118) (pc' := 122) rfl (hb hby at_118) (by decide) (by decide)) ?_
    show own_End p e below P (T40.setTop (mkF m 122 #[.val (.int p0), .val (.int (0 : Int32)), .val (.ref b1), .val (.int (1 : Int32)), .val (.ref b1_31), .unset] [(.int (1 : Int32)), (.int (1 : Int32))]))
    refine own_st (fun _ => XS.iand X40.here hx rfl (hb hby at_122) rfl) ?_
    show own_End p e below P (T40.setTop (mkF m 123 #[.val (.int p0), .val (.int (0 : Int32)), .val (.ref b1), .val (.int (1 : Int32)), .val (.ref b1_31), .unset] [(.int (1 : Int32))]))
    refine own_st (fun _ => XS.istoreN X40.here hx rfl (hb hby at_123) rfl (l' := #[.val (.int p0), .val (.int (0 : Int32)), .val (.ref b1), .val (.int (1 : Int32)), .val (.ref b1_31), .unset]) rfl) ?_
    show own_End p e below P (T40.setTop (mkF m 124 #[.val (.int p0), .val (.int (0 : Int32)), .val (.ref b1), .val (.int (1 : Int32)), .val (.ref b1_31), .unset] []))
    refine own_st (fun _ => XS.aloadN X40.here hx rfl (hb hby at_124) rfl rfl) ?_
    show own_End p e below P (T40.setTop (mkF m 125 #[.val (.int p0), .val (.int (0 : Int32)), .val (.ref b1), .val (.int (1 : Int32)), .val (.ref b1_31), .unset] [(.ref b1)]))
    have G43 := (f0_12.keep Kq31)
    have G44 := (f1_12.keep Kq31 nin0)
    have G45 := (f2_12.keep Kq31 nin0)
    have G46 := (f3_12.keep Kq31 nin0)
    refine own_callV X40 hx hZ (y := (⟨"com/example/tallywire/tallywire/rules/GuidelineTree", "nextTally", "()I"⟩ : MethodName)) (z := (⟨"com/example/tallywire/tallywire/rules/GuidelineTree", "nextTally", "()I"⟩ : MethodName)) hown (hw _ (List.mem_of_getElem? (i := 200) rfl)) (hw _ (List.mem_of_getElem? (i := 201) rfl)) (notFace_of_selects (args := #[]) (mvT hZ (hw _ (List.mem_of_getElem? (i := 203) rfl)))) (hw _ (List.mem_of_getElem? (i := 203) rfl)) (hw _ (List.mem_of_getElem? (i := 202) rfl)) (hw _ (List.mem_of_getElem? (i := 2) rfl)) (hw _ (List.mem_of_getElem? (i := 204) rfl)) (by decide) G43 (own_mnt l Z a0 hw [] b1 b2_12 (0 : Int32) (0 : Int32) T31.heap n0 (Nat.le_trans Z0 K31.1) G43 G44 G45 G46 low_b1) 0 (by decide) (by decide) eq40 (by decide) (by decide) (g := (mkF m 125 #[.val (.int p0), .val (.int (0 : Int32)), .val (.ref b1), .val (.int (1 : Int32)), .val (.ref b1_31), .unset] [(.ref b1)])) rfl (by rw [hml']; rfl) (argsL := []) (rest := []) rfl (lenOf own_pd_I_154 rfl) rfl (by show 2 * 0 + _ ≤ _; exact Nat.le_of_eq rfl) (hb hby at_125) (fun r42 T42 L42 X42 hQ42 => ?_)
    obtain ⟨rfl, Nq42, Kq42, f0_42, f1_42, f2_42, f3_42⟩ := hQ42
    have N42 := Fr.app N40 Nq42
    have K42 := Keep.trans K31 Kq42 (allS (Or.inr sz_b1) all0)
    show own_End p e below P (T42.setTop (mkF m 128 #[.val (.int p0), .val (.int (0 : Int32)), .val (.ref b1), .val (.int (1 : Int32)), .val (.ref b1_31), .unset] [(.int (0 : Int32))]))
    refine own_st (fun _ => XS.istore X42.here hx rfl (hb hby at_128) rfl (l' := #[.val (.int p0), .val (.int (0 : Int32)), .val (.ref b1), .val (.int (1 : Int32)), .val (.ref b1_31), .val (.int (0 : Int32))]) rfl) ?_
    show own_End p e below P (T42.setTop (mkF m 130 #[.val (.int p0), .val (.int (0 : Int32)), .val (.ref b1), .val (.int (1 : Int32)), .val (.ref b1_31), .val (.int (0 : Int32))] []))
    refine own_st (fun _ => XS.iloadN X42.here hx rfl (hb hby at_130) rfl) ?_
    show own_End p e below P (T42.setTop (mkF m 131 #[.val (.int p0), .val (.int (0 : Int32)), .val (.ref b1), .val (.int (1 : Int32)), .val (.ref b1_31), .val (.int (0 : Int32))] [(.int (1 : Int32))]))
    refine own_st (fun _ => XS.iload X42.here hx rfl (hb hby at_131) rfl) ?_
    show own_End p e below P (T42.setTop (mkF m 133 #[.val (.int p0), .val (.int (0 : Int32)), .val (.ref b1), .val (.int (1 : Int32)), .val (.ref b1_31), .val (.int (0 : Int32))] [(.int (0 : Int32)), (.int (1 : Int32))]))
    refine own_st (fun _ => XS.iloadN X42.here hx rfl (hb hby at_133) rfl) ?_
    show own_End p e below P (T42.setTop (mkF m 134 #[.val (.int p0), .val (.int (0 : Int32)), .val (.ref b1), .val (.int (1 : Int32)), .val (.ref b1_31), .val (.int (0 : Int32))] [(.int (0 : Int32)), (.int (0 : Int32)), (.int (1 : Int32))]))
    refine own_st (fun _ => XS.icmpNo X42.here hx rfl (hb hby at_134) rfl (teq (by decide : (0 : Int32) = (0 : Int32))).2) ?_
    show own_End p e below P (T42.setTop (mkF m 137 #[.val (.int p0), .val (.int (0 : Int32)), .val (.ref b1), .val (.int (1 : Int32)), .val (.ref b1_31), .val (.int (0 : Int32))] [(.int (1 : Int32))]))
    refine own_st (fun _ => XS.iconst X42.here hx rfl (hb hby at_137)) ?_
    show own_End p e below P (T42.setTop (mkF m 138 #[.val (.int p0), .val (.int (0 : Int32)), .val (.ref b1), .val (.int (1 : Int32)), .val (.ref b1_31), .val (.int (0 : Int32))] [(.int (1 : Int32)), (.int (1 : Int32))]))
    refine own_st (fun _ => XS.goto X42.here hx rfl (pc0 := 138) (pc' := 142) rfl (hb hby at_138) (by decide) (by decide)) ?_
    show own_End p e below P (T42.setTop (mkF m 142 #[.val (.int p0), .val (.int (0 : Int32)), .val (.ref b1), .val (.int (1 : Int32)), .val (.ref b1_31), .val (.int (0 : Int32))] [(.int (1 : Int32)), (.int (1 : Int32))]))
    refine own_st (fun _ => XS.iand X42.here hx rfl (hb hby at_142) rfl) ?_
    show own_End p e below P (T42.setTop (mkF m 143 #[.val (.int p0), .val (.int (0 : Int32)), .val (.ref b1), .val (.int (1 : Int32)), .val (.ref b1_31), .val (.int (0 : Int32))] [(.int (1 : Int32))]))
    refine own_st (fun _ => XS.istoreN X42.here hx rfl (hb hby at_143) rfl (l' := #[.val (.int p0), .val (.int (0 : Int32)), .val (.ref b1), .val (.int (1 : Int32)), .val (.ref b1_31), .val (.int (0 : Int32))]) rfl) ?_
    show own_End p e below P (T42.setTop (mkF m 144 #[.val (.int p0), .val (.int (0 : Int32)), .val (.ref b1), .val (.int (1 : Int32)), .val (.ref b1_31), .val (.int (0 : Int32))] []))
    refine own_st (fun _ => XS.iloadN X42.here hx rfl (hb hby at_144) rfl) ?_
    show own_End p e below P (T42.setTop (mkF m 145 #[.val (.int p0), .val (.int (0 : Int32)), .val (.ref b1), .val (.int (1 : Int32)), .val (.ref b1_31), .val (.int (0 : Int32))] [(.int (1 : Int32))]))
    refine own_st (fun _ => XS.aloadN X42.here hx rfl (hb hby at_145) rfl rfl) ?_
    show own_End p e below P (T42.setTop (mkF m 146 #[.val (.int p0), .val (.int (0 : Int32)), .val (.ref b1), .val (.int (1 : Int32)), .val (.ref b1_31), .val (.int (0 : Int32))] [(.ref b1), (.int (1 : Int32))]))
    have G48 := ((G32.keep Kq31).keep Kq42)
    have G49 := (own_StaKeep (own_StaKeep G33 Kq31 all0) Kq42 (allS (own_nst G43) all0))
    refine own_callV X42 hx hZ (y := (⟨"com/example/tallywire/tallywire/rules/GuidelineTree", "layer", "()Lcom/example/tallywire/tallywire/rules/Layer;"⟩ : MethodName)) (z := (⟨"com/example/tallywire/tallywire/rules/GuidelineTree", "layer", "()Lcom/example/tallywire/tallywire/rules/Layer;"⟩ : MethodName)) hown (hw _ (List.mem_of_getElem? (i := 148) rfl)) (hw _ (List.mem_of_getElem? (i := 149) rfl)) (notFace_of_selects (args := #[]) (mvT hZ (hw _ (List.mem_of_getElem? (i := 151) rfl)))) (hw _ (List.mem_of_getElem? (i := 151) rfl)) (hw _ (List.mem_of_getElem? (i := 150) rfl)) (hw _ (List.mem_of_getElem? (i := 2) rfl)) (hw _ (List.mem_of_getElem? (i := 152) rfl)) (by decide) f0_42 (own_mlayer l Z a0 hw [] b1 b2_12 (0 : Int32) (1 : Int32) s_ImmutableCollections_EMPTY_SET T42.heap n0 (Nat.le_trans Z0 K42.1) G48 f1_42 f2_42 f3_42 G49) 1 (by decide) (by decide) rfl (by decide) (by decide) (g := (mkF m 146 #[.val (.int p0), .val (.int (0 : Int32)), .val (.ref b1), .val (.int (1 : Int32)), .val (.ref b1_31), .val (.int (0 : Int32))] [(.ref b1), (.int (1 : Int32))])) rfl (by rw [hml']; rfl) (argsL := []) (rest := [(.int (1 : Int32))]) rfl (lenOf own_pd_Lcom_example_tallywire_tallywire_rules_Layer_572 rfl) rfl (by show 2 * 0 + _ ≤ _; exact Nat.le_of_eq rfl) (hb hby at_146) (fun r47 T47 L47 X47 hQ47 => ?_)
    obtain ⟨b1_47, rfl, Nq47, Kq47, szq_b1_47, low_b1_47, f0_47, f1_47, f2_47⟩ := hQ47
    have N47 := Fr.app N42 Nq47
    have ne50 : b1 ≠ b1_47 := Nat.ne_of_lt (Nat.lt_of_lt_of_le f0_42.lt szq_b1_47)
    have G51 := (f0_31.keep Kq42)
    have ne52 : b1_31 ≠ b1_47 := Nat.ne_of_lt (Nat.lt_of_lt_of_le G51.lt szq_b1_47)
    have G53 := ((G35.keep Kq31).keep Kq42)
    have ne54 : b3 ≠ b1_47 := Nat.ne_of_lt (Nat.lt_of_lt_of_le G53.lt szq_b1_47)
    have ne55 : s_ImmutableCollections_EMPTY_SET ≠ b1_47 := Nat.ne_of_lt (Nat.lt_of_lt_of_le G48.lt szq_b1_47)
    have sz_b1_47 := Nat.le_trans K42.1 szq_b1_47
    have K47 := Keep.trans K42 Kq47 all0
    show own_End p e below P (T47.setTop (mkF m 149 #[.val (.int p0), .val (.int (0 : Int32)), .val (.ref b1), .val (.int (1 : Int32)), .val (.ref b1_31), .val (.int (0 : Int32))] [(.ref b1_47), (.int (1 : Int32))]))
    refine own_callV X47 hx hZ (y := (⟨"com/example/tallywire/tallywire/rules/Layer", "tallies", "()I"⟩ : MethodName)) (z := (⟨"com/example/tallywire/tallywire/rules/Layer", "tallies", "()I"⟩ : MethodName)) hown (hw _ (List.mem_of_getElem? (i := 190) rfl)) (hw _ (List.mem_of_getElem? (i := 191) rfl)) (notFace_of_selects (args := #[]) (mvT hZ (hw _ (List.mem_of_getElem? (i := 193) rfl)))) (hw _ (List.mem_of_getElem? (i := 193) rfl)) (hw _ (List.mem_of_getElem? (i := 192) rfl)) (hw _ (List.mem_of_getElem? (i := 155) rfl)) (hw _ (List.mem_of_getElem? (i := 194) rfl)) (by decide) f0_47 (own_mlt l Z a0 hw [] b1_47 (1 : Int32) T47.heap n0 (Nat.le_trans Z0 K47.1) f2_47) 1 (by decide) (by decide) rfl (by decide) (by decide) (g := (mkF m 149 #[.val (.int p0), .val (.int (0 : Int32)), .val (.ref b1), .val (.int (1 : Int32)), .val (.ref b1_31), .val (.int (0 : Int32))] [(.ref b1_47), (.int (1 : Int32))])) rfl (by rw [hml']; rfl) (argsL := []) (rest := [(.int (1 : Int32))]) rfl (lenOf own_pd_I_154 rfl) rfl (by show 2 * 0 + _ ≤ _; exact Nat.le_of_eq rfl) (hb hby at_149) (fun r56 T56 L56 X56 hQ56 => ?_)
    obtain ⟨rfl, Nq56, eq56⟩ := hQ56
    have N56 := Fr.app N47 Nq56
    show own_End p e below P (T56.setTop (mkF m 152 #[.val (.int p0), .val (.int (0 : Int32)), .val (.ref b1), .val (.int (1 : Int32)), .val (.ref b1_31), .val (.int (0 : Int32))] [(.int (own_flt (1 : Int32))), (.int (1 : Int32))]))
    refine own_st (fun _ => XS.iloadN X56.here hx rfl (hb hby at_152) rfl) ?_
    show own_End p e below P (T56.setTop (mkF m 153 #[.val (.int p0), .val (.int (0 : Int32)), .val (.ref b1), .val (.int (1 : Int32)), .val (.ref b1_31), .val (.int (0 : Int32))] [(.int (0 : Int32)), (.int (own_flt (1 : Int32))), (.int (1 : Int32))]))
    refine own_st (fun _ => XS.iconst X56.here hx rfl (hb hby at_153)) ?_
    show own_End p e below P (T56.setTop (mkF m 154 #[.val (.int p0), .val (.int (0 : Int32)), .val (.ref b1), .val (.int (1 : Int32)), .val (.ref b1_31), .val (.int (0 : Int32))] [(.int (1 : Int32)), (.int (0 : Int32)), (.int (own_flt (1 : Int32))), (.int (1 : Int32))]))
    refine own_st (fun _ => XS.iadd X56.here hx rfl (hb hby at_154) rfl) ?_
    show own_End p e below P (T56.setTop (mkF m 155 #[.val (.int p0), .val (.int (0 : Int32)), .val (.ref b1), .val (.int (1 : Int32)), .val (.ref b1_31), .val (.int (0 : Int32))] [(.int (1 : Int32)), (.int (own_flt (1 : Int32))), (.int (1 : Int32))]))
    have hd57 : (own_flt (1 : Int32)) = (1 : Int32) := by decide
    refine own_st (fun _ => XS.icmpNo X56.here hx rfl (hb hby at_155) rfl (teq hd57).2) ?_
    show own_End p e below P (T56.setTop (mkF m 158 #[.val (.int p0), .val (.int (0 : Int32)), .val (.ref b1), .val (.int (1 : Int32)), .val (.ref b1_31), .val (.int (0 : Int32))] [(.int (1 : Int32))]))
    refine own_st (fun _ => XS.iconst X56.here hx rfl (hb hby at_158)) ?_
    show own_End p e below P (T56.setTop (mkF m 159 #[.val (.int p0), .val (.int (0 : Int32)), .val (.ref b1), .val (.int (1 : Int32)), .val (.ref b1_31), .val (.int (0 : Int32))] [(.int (1 : Int32)), (.int (1 : Int32))]))
    refine own_st (fun _ => XS.goto X56.here hx rfl (pc0 := 159) (pc' := 163) rfl (hb hby at_159) (by decide) (by decide)) ?_
    show own_End p e below P (T56.setTop (mkF m 163 #[.val (.int p0), .val (.int (0 : Int32)), .val (.ref b1), .val (.int (1 : Int32)), .val (.ref b1_31), .val (.int (0 : Int32))] [(.int (1 : Int32)), (.int (1 : Int32))]))
    refine own_st (fun _ => XS.iand X56.here hx rfl (hb hby at_163) rfl) ?_
    show own_End p e below P (T56.setTop (mkF m 164 #[.val (.int p0), .val (.int (0 : Int32)), .val (.ref b1), .val (.int (1 : Int32)), .val (.ref b1_31), .val (.int (0 : Int32))] [(.int (1 : Int32))]))
    refine own_st (fun _ => XS.istoreN X56.here hx rfl (hb hby at_164) rfl (l' := #[.val (.int p0), .val (.int (0 : Int32)), .val (.ref b1), .val (.int (1 : Int32)), .val (.ref b1_31), .val (.int (0 : Int32))]) rfl) ?_
    show own_End p e below P (T56.setTop (mkF m 165 #[.val (.int p0), .val (.int (0 : Int32)), .val (.ref b1), .val (.int (1 : Int32)), .val (.ref b1_31), .val (.int (0 : Int32))] []))
    refine own_st (fun _ => XS.iloadN X56.here hx rfl (hb hby at_165) rfl) ?_
    show own_End p e below P (T56.setTop (mkF m 166 #[.val (.int p0), .val (.int (0 : Int32)), .val (.ref b1), .val (.int (1 : Int32)), .val (.ref b1_31), .val (.int (0 : Int32))] [(.int (1 : Int32))]))
    have G58 := (Nat.le_trans (Nat.le_trans (Nat.le_trans hk12 Kq31.1) Kq42.1) Kq47.1)
    exact own_retNW X56 hS G58 eq56 hx hlk hP (t := .boolean) (by simp) hrt (hb hby at_166) (by decide) (by decide) ⟨rfl, N56⟩
  · refine own_st (fun _ => XS.icmpNo X12.here hx rfl (hb hby at_25) rfl (flt hc28).1) ?_
    show own_End p e below P (T12.setTop (mkF m 28 #[.val (.int p0), .val (.int k), .val (.ref b1), .val (.int (1 : Int32)), .unset, .unset] []))
    refine own_st (fun _ => XS.iloadN X12.here hx rfl (hb hby at_28) rfl) ?_
    show own_End p e below P (T12.setTop (mkF m 29 #[.val (.int p0), .val (.int k), .val (.ref b1), .val (.int (1 : Int32)), .unset, .unset] [(.int (1 : Int32))]))
    refine own_st (fun _ => XS.aloadN X12.here hx rfl (hb hby at_29) rfl rfl) ?_
    show own_End p e below P (T12.setTop (mkF m 30 #[.val (.int p0), .val (.int k), .val (.ref b1), .val (.int (1 : Int32)), .unset, .unset] [(.ref b1), (.int (1 : Int32))]))
    refine own_callV X12 hx hZ (y := (⟨"com/example/tallywire/tallywire/rules/GuidelineTree", "nextTally", "()I"⟩ : MethodName)) (z := (⟨"com/example/tallywire/tallywire/rules/GuidelineTree", "nextTally", "()I"⟩ : MethodName)) hown (hw _ (List.mem_of_getElem? (i := 200) rfl)) (hw _ (List.mem_of_getElem? (i := 201) rfl)) (notFace_of_selects (args := #[]) (mvT hZ (hw _ (List.mem_of_getElem? (i := 203) rfl)))) (hw _ (List.mem_of_getElem? (i := 203) rfl)) (hw _ (List.mem_of_getElem? (i := 202) rfl)) (hw _ (List.mem_of_getElem? (i := 2) rfl)) (hw _ (List.mem_of_getElem? (i := 204) rfl)) (by decide) f0_12 (own_mnt l Z a0 hw [] b1 b2_12 (0 : Int32) (0 : Int32) T12.heap n0 (Nat.le_trans Z0 K12.1) f0_12 f1_12 f2_12 f3_12 low_b1) 1 (by decide) (by decide) rfl (by decide) (by decide) (g := (mkF m 30 #[.val (.int p0), .val (.int k), .val (.ref b1), .val (.int (1 : Int32)), .unset, .unset] [(.ref b1), (.int (1 : Int32))])) rfl (by rw [hml']; rfl) (argsL := []) (rest := [(.int (1 : Int32))]) rfl (lenOf own_pd_I_154 rfl) rfl (by show 2 * 0 + _ ≤ _; exact Nat.le_of_eq rfl) (hb hby at_30) (fun r59 T59 L59 X59 hQ59 => ?_)
    obtain ⟨rfl, Nq59, Kq59, f0_59, f1_59, f2_59, f3_59⟩ := hQ59
    have N59 := Fr.app N12 Nq59
    have K59 := Keep.trans K12 Kq59 (allS (Or.inr sz_b1) all0)
    show own_End p e below P (T59.setTop (mkF m 33 #[.val (.int p0), .val (.int k), .val (.ref b1), .val (.int (1 : Int32)), .unset, .unset] [(.int (0 : Int32)), (.int (1 : Int32))]))
    refine own_st (fun _ => XS.ifNo X59.here hx rfl (hb hby at_33) rfl ((if0 _ _).trans (teq (by decide : (0 : Int32) = (0 : Int32))).2)) ?_
    show own_End p e below P (T59.setTop (mkF m 36 #[.val (.int p0), .val (.int k), .val (.ref b1), .val (.int (1 : Int32)), .unset, .unset] [(.int (1 : Int32))]))
    refine own_st (fun _ => XS.iconst X59.here hx rfl (hb hby at_36)) ?_
    show own_End p e below P (T59.setTop (mkF m 37 #[.val (.int p0), .val (.int k), .val (.ref b1), .val (.int (1 : Int32)), .unset, .unset] [(.int (1 : Int32)), (.int (1 : Int32))]))
    refine own_st (fun _ => XS.goto X59.here hx rfl (pc0 := 37) (pc' := 41) rfl (hb hby at_37) (by decide) (by decide)) ?_
    show own_End p e below P (T59.setTop (mkF m 41 #[.val (.int p0), .val (.int k), .val (.ref b1), .val (.int (1 : Int32)), .unset, .unset] [(.int (1 : Int32)), (.int (1 : Int32))]))
    refine own_st (fun _ => XS.iand X59.here hx rfl (hb hby at_41) rfl) ?_
    show own_End p e below P (T59.setTop (mkF m 42 #[.val (.int p0), .val (.int k), .val (.ref b1), .val (.int (1 : Int32)), .unset, .unset] [(.int (1 : Int32))]))
    refine own_st (fun _ => XS.istoreN X59.here hx rfl (hb hby at_42) rfl (l' := #[.val (.int p0), .val (.int k), .val (.ref b1), .val (.int (1 : Int32)), .unset, .unset]) rfl) ?_
    show own_End p e below P (T59.setTop (mkF m 43 #[.val (.int p0), .val (.int k), .val (.ref b1), .val (.int (1 : Int32)), .unset, .unset] []))
    refine own_st (fun _ => XS.iloadN X59.here hx rfl (hb hby at_43) rfl) ?_
    show own_End p e below P (T59.setTop (mkF m 44 #[.val (.int p0), .val (.int k), .val (.ref b1), .val (.int (1 : Int32)), .unset, .unset] [(.int k)]))
    refine own_st (fun _ => XS.iconst X59.here hx rfl (hb hby at_44)) ?_
    show own_End p e below P (T59.setTop (mkF m 45 #[.val (.int p0), .val (.int k), .val (.ref b1), .val (.int (1 : Int32)), .unset, .unset] [(.int (2 : Int32)), (.int k)]))
    by_cases hc60 : k < (2 : Int32)
    · refine own_st (fun _ => XS.icmpYes X59.here hx rfl (pc0 := 45) (pc' := 64) rfl (hb hby at_45) rfl (tlt hc60).1 (by decide) (by decide)) ?_
      show own_End p e below P (T59.setTop (mkF m 64 #[.val (.int p0), .val (.int k), .val (.ref b1), .val (.int (1 : Int32)), .unset, .unset] []))
      refine own_st (fun _ => XS.iloadN X59.here hx rfl (hb hby at_64) rfl) ?_
      show own_End p e below P (T59.setTop (mkF m 65 #[.val (.int p0), .val (.int k), .val (.ref b1), .val (.int (1 : Int32)), .unset, .unset] [(.int k)]))
      refine own_st (fun _ => XS.iconst X59.here hx rfl (hb hby at_65)) ?_
      show own_End p e below P (T59.setTop (mkF m 66 #[.val (.int p0), .val (.int k), .val (.ref b1), .val (.int (1 : Int32)), .unset, .unset] [(.int (3 : Int32)), (.int k)]))
      have hd61 : k < (3 : Int32) := by exact own_up hc60 (by decide)
      refine own_st (fun _ => XS.icmpYes X59.here hx rfl (pc0 := 66) (pc' := 85) rfl (hb hby at_66) rfl (tlt hd61).1 (by decide) (by decide)) ?_
      show own_End p e below P (T59.setTop (mkF m 85 #[.val (.int p0), .val (.int k), .val (.ref b1), .val (.int (1 : Int32)), .unset, .unset] []))
      have hb0 := own_hi hc60
      have hb1 := own_lo hc28
      have hcc := own_c
      have hkv : (1 : Int32) = k := own_eqk (by omega)
      subst hkv
      show own_End p e below P (T59.setTop (mkF m 85 #[.val (.int p0), .val (.int (1 : Int32)), .val (.ref b1), .val (.int (1 : Int32)), .unset, .unset] []))
      refine own_st (fun _ => XS.aloadN X59.here hx rfl (hb hby at_85) rfl rfl) ?_
      show own_End p e below P (T59.setTop (mkF m 86 #[.val (.int p0), .val (.int (1 : Int32)), .val (.ref b1), .val (.int (1 : Int32)), .unset, .unset] [(.ref b1)]))
      have G63 := ((G26.keep Kq12).keep Kq59)
      have G64 := (own_StaKeep (own_StaKeep (own_StaKeep (((S_ImmutableCollections_EMPTY_SET.ext E1).ext E3).ext E7) Kq9 (allS (own_nst G10) all0)) Kq12 (allS (own_nst G13) all0)) Kq59 (allS (own_nst f0_12) all0))
      refine own_callV X59 hx hZ (y := (⟨"com/example/tallywire/tallywire/rules/GuidelineTree", "layer", "()Lcom/example/tallywire/tallywire/rules/Layer;"⟩ : MethodName)) (z := (⟨"com/example/tallywire/tallywire/rules/GuidelineTree", "layer", "()Lcom/example/tallywire/tallywire/rules/Layer;"⟩ : MethodName)) hown (hw _ (List.mem_of_getElem? (i := 148) rfl)) (hw _ (List.mem_of_getElem? (i := 149) rfl)) (notFace_of_selects (args := #[]) (mvT hZ (hw _ (List.mem_of_getElem? (i := 151) rfl)))) (hw _ (List.mem_of_getElem? (i := 151) rfl)) (hw _ (List.mem_of_getElem? (i := 150) rfl)) (hw _ (List.mem_of_getElem? (i := 2) rfl)) (hw _ (List.mem_of_getElem? (i := 152) rfl)) (by decide) f0_59 (own_mlayer l Z a0 hw [] b1 b2_12 (0 : Int32) (1 : Int32) s_ImmutableCollections_EMPTY_SET T59.heap n0 (Nat.le_trans Z0 K59.1) G63 f1_59 f2_59 f3_59 G64) 0 (by decide) (by decide) rfl (by decide) (by decide) (g := (mkF m 86 #[.val (.int p0), .val (.int (1 : Int32)), .val (.ref b1), .val (.int (1 : Int32)), .unset, .unset] [(.ref b1)])) rfl (by rw [hml']; rfl) (argsL := []) (rest := []) rfl (lenOf own_pd_Lcom_example_tallywire_tallywire_rules_Layer_572 rfl) rfl (by show 2 * 0 + _ ≤ _; exact Nat.le_of_eq rfl) (hb hby at_86) (fun r62 T62 L62 X62 hQ62 => ?_)
      obtain ⟨b1_62, rfl, Nq62, Kq62, szq_b1_62, low_b1_62, f0_62, f1_62, f2_62⟩ := hQ62
      have N62 := Fr.app N59 Nq62
      have ne65 : b1 ≠ b1_62 := Nat.ne_of_lt (Nat.lt_of_lt_of_le f0_59.lt szq_b1_62)
      have G66 := ((f0_9.keep Kq12).keep Kq59)
      have ne67 : b3 ≠ b1_62 := Nat.ne_of_lt (Nat.lt_of_lt_of_le G66.lt szq_b1_62)
      have ne68 : s_ImmutableCollections_EMPTY_SET ≠ b1_62 := Nat.ne_of_lt (Nat.lt_of_lt_of_le G63.lt szq_b1_62)
      have sz_b1_62 := Nat.le_trans K59.1 szq_b1_62
      have K62 := Keep.trans K59 Kq62 all0
      show own_End p e below P (T62.setTop (mkF m 89 #[.val (.int p0), .val (.int (1 : Int32)), .val (.ref b1), .val (.int (1 : Int32)), .unset, .unset] [(.ref b1_62)]))
      refine own_st (fun _ => XS.astore X62.here hx rfl (hb hby at_89) rfl rfl (l' := #[.val (.int p0), .val (.int (1 : Int32)), .val (.ref b1), .val (.int (1 : Int32)), .val (.ref b1_62), .unset]) rfl) ?_
      show own_End p e below P (T62.setTop (mkF m 91 #[.val (.int p0), .val (.int (1 : Int32)), .val (.ref b1), .val (.int (1 : Int32)), .val (.ref b1_62), .unset] []))
      refine own_st (fun _ => XS.iloadN X62.here hx rfl (hb hby at_91) rfl) ?_
      show own_End p e below P (T62.setTop (mkF m 92 #[.val (.int p0), .val (.int (1 : Int32)), .val (.ref b1), .val (.int (1 : Int32)), .val (.ref b1_62), .unset] [(.int (1 : Int32))]))
      refine own_st (fun _ => XS.aload X62.here hx rfl (hb hby at_92) rfl rfl) ?_
      show own_End p e below P (T62.setTop (mkF m 94 #[.val (.int p0), .val (.int (1 : Int32)), .val (.ref b1), .val (.int (1 : Int32)), .val (.ref b1_62), .unset] [(.ref b1_62), (.int (1 : Int32))]))
      refine own_callV X62 hx hZ (y := (⟨"com/example/tallywire/tallywire/rules/Layer", "tallies", "()I"⟩ : MethodName)) (z := (⟨"com/example/tallywire/tallywire/rules/Layer", "tallies", "()I"⟩ : MethodName)) hown (hw _ (List.mem_of_getElem? (i := 190) rfl)) (hw _ (List.mem_of_getElem? (i := 191) rfl)) (notFace_of_selects (args := #[]) (mvT hZ (hw _ (List.mem_of_getElem? (i := 193) rfl)))) (hw _ (List.mem_of_getElem? (i := 193) rfl)) (hw _ (List.mem_of_getElem? (i := 192) rfl)) (hw _ (List.mem_of_getElem? (i := 155) rfl)) (hw _ (List.mem_of_getElem? (i := 194) rfl)) (by decide) f0_62 (own_mlt l Z a0 hw [] b1_62 (1 : Int32) T62.heap n0 (Nat.le_trans Z0 K62.1) f2_62) 1 (by decide) (by decide) rfl (by decide) (by decide) (g := (mkF m 94 #[.val (.int p0), .val (.int (1 : Int32)), .val (.ref b1), .val (.int (1 : Int32)), .val (.ref b1_62), .unset] [(.ref b1_62), (.int (1 : Int32))])) rfl (by rw [hml']; rfl) (argsL := []) (rest := [(.int (1 : Int32))]) rfl (lenOf own_pd_I_154 rfl) rfl (by show 2 * 0 + _ ≤ _; exact Nat.le_of_eq rfl) (hb hby at_94) (fun r69 T69 L69 X69 hQ69 => ?_)
      obtain ⟨rfl, Nq69, eq69⟩ := hQ69
      have N69 := Fr.app N62 Nq69
      show own_End p e below P (T69.setTop (mkF m 97 #[.val (.int p0), .val (.int (1 : Int32)), .val (.ref b1), .val (.int (1 : Int32)), .val (.ref b1_62), .unset] [(.int (own_flt (1 : Int32))), (.int (1 : Int32))]))
      refine own_st (fun _ => XS.iloadN X69.here hx rfl (hb hby at_97) rfl) ?_
      show own_End p e below P (T69.setTop (mkF m 98 #[.val (.int p0), .val (.int (1 : Int32)), .val (.ref b1), .val (.int (1 : Int32)), .val (.ref b1_62), .unset] [(.int (1 : Int32)), (.int (own_flt (1 : Int32))), (.int (1 : Int32))]))
      have hd70 : (own_flt (1 : Int32)) = (1 : Int32) := by decide
      refine own_st (fun _ => XS.icmpNo X69.here hx rfl (hb hby at_98) rfl (teq hd70).2) ?_
      show own_End p e below P (T69.setTop (mkF m 101 #[.val (.int p0), .val (.int (1 : Int32)), .val (.ref b1), .val (.int (1 : Int32)), .val (.ref b1_62), .unset] [(.int (1 : Int32))]))
      refine own_st (fun _ => XS.iconst X69.here hx rfl (hb hby at_101)) ?_
      show own_End p e below P (T69.setTop (mkF m 102 #[.val (.int p0), .val (.int (1 : Int32)), .val (.ref b1), .val (.int (1 : Int32)), .val (.ref b1_62), .unset] [(.int (1 : Int32)), (.int (1 : Int32))]))
      refine own_st (fun _ => XS.goto X69.here hx rfl (pc0 := 102) (pc' := 106) rfl (hb hby at_102) (by decide) (by decide)) ?_
      show own_End p e below P (T69.setTop (mkF m 106 #[.val (.int p0), .val (.int (1 : Int32)), .val (.ref b1), .val (.int (1 : Int32)), .val (.ref b1_62), .unset] [(.int (1 : Int32)), (.int (1 : Int32))]))
      refine own_st (fun _ => XS.iand X69.here hx rfl (hb hby at_106) rfl) ?_
      show own_End p e below P (T69.setTop (mkF m 107 #[.val (.int p0), .val (.int (1 : Int32)), .val (.ref b1), .val (.int (1 : Int32)), .val (.ref b1_62), .unset] [(.int (1 : Int32))]))
      refine own_st (fun _ => XS.istoreN X69.here hx rfl (hb hby at_107) rfl (l' := #[.val (.int p0), .val (.int (1 : Int32)), .val (.ref b1), .val (.int (1 : Int32)), .val (.ref b1_62), .unset]) rfl) ?_
      show own_End p e below P (T69.setTop (mkF m 108 #[.val (.int p0), .val (.int (1 : Int32)), .val (.ref b1), .val (.int (1 : Int32)), .val (.ref b1_62), .unset] []))
      refine own_st (fun _ => XS.iloadN X69.here hx rfl (hb hby at_108) rfl) ?_
      show own_End p e below P (T69.setTop (mkF m 109 #[.val (.int p0), .val (.int (1 : Int32)), .val (.ref b1), .val (.int (1 : Int32)), .val (.ref b1_62), .unset] [(.int (1 : Int32))]))
      refine own_st (fun _ => XS.aload X69.here hx rfl (hb hby at_109) rfl rfl) ?_
      show own_End p e below P (T69.setTop (mkF m 111 #[.val (.int p0), .val (.int (1 : Int32)), .val (.ref b1), .val (.int (1 : Int32)), .val (.ref b1_62), .unset] [(.ref b1_62), (.int (1 : Int32))]))
      refine own_callV X69 hx hZ (y := (⟨"com/example/tallywire/tallywire/rules/Layer", "facts", "()I"⟩ : MethodName)) (z := (⟨"com/example/tallywire/tallywire/rules/Layer", "facts", "()I"⟩ : MethodName)) hown (hw _ (List.mem_of_getElem? (i := 195) rfl)) (hw _ (List.mem_of_getElem? (i := 196) rfl)) (notFace_of_selects (args := #[]) (mvT hZ (hw _ (List.mem_of_getElem? (i := 198) rfl)))) (hw _ (List.mem_of_getElem? (i := 198) rfl)) (hw _ (List.mem_of_getElem? (i := 197) rfl)) (hw _ (List.mem_of_getElem? (i := 155) rfl)) (hw _ (List.mem_of_getElem? (i := 199) rfl)) (by decide) f0_62 (own_mlf l Z a0 hw [] b1_62 (0 : Int32) T62.heap n0 (Nat.le_trans Z0 K62.1) f1_62) 1 (by decide) (by decide) eq69 (by decide) (by decide) (g := (mkF m 111 #[.val (.int p0), .val (.int (1 : Int32)), .val (.ref b1), .val (.int (1 : Int32)), .val (.ref b1_62), .unset] [(.ref b1_62), (.int (1 : Int32))])) rfl (by rw [hml']; rfl) (argsL := []) (rest := [(.int (1 : Int32))]) rfl (lenOf own_pd_I_154 rfl) rfl (by show 2 * 0 + _ ≤ _; exact Nat.le_of_eq rfl) (hb hby at_111) (fun r71 T71 L71 X71 hQ71 => ?_)
      obtain ⟨rfl, Nq71, eq71⟩ := hQ71
      have N71 := Fr.app N69 Nq71
      show own_End p e below P (T71.setTop (mkF m 114 #[.val (.int p0), .val (.int (1 : Int32)), .val (.ref b1), .val (.int (1 : Int32)), .val (.ref b1_62), .unset] [(.int (own_flf (0 : Int32))), (.int (1 : Int32))]))
      have hd72 : (own_flf (0 : Int32)) = (0 : Int32) := by decide
      refine own_st (fun _ => XS.ifNo X71.here hx rfl (hb hby at_114) rfl ((if0 _ _).trans (teq hd72).2)) ?_
      show own_End p e below P (T71.setTop (mkF m 117 #[.val (.int p0), .val (.int (1 : Int32)), .val (.ref b1), .val (.int (1 : Int32)), .val (.ref b1_62), .unset] [(.int (1 : Int32))]))
      refine own_st (fun _ => XS.iconst X71.here hx rfl (hb hby at_117)) ?_
      show own_End p e below P (T71.setTop (mkF m 118 #[.val (.int p0), .val (.int (1 : Int32)), .val (.ref b1), .val (.int (1 : Int32)), .val (.ref b1_62), .unset] [(.int (1 : Int32)), (.int (1 : Int32))]))
      refine own_st (fun _ => XS.goto X71.here hx rfl (pc0 := 118) (pc' := 122) rfl (hb hby at_118) (by decide) (by decide)) ?_
      show own_End p e below P (T71.setTop (mkF m 122 #[.val (.int p0), .val (.int (1 : Int32)), .val (.ref b1), .val (.int (1 : Int32)), .val (.ref b1_62), .unset] [(.int (1 : Int32)), (.int (1 : Int32))]))
      refine own_st (fun _ => XS.iand X71.here hx rfl (hb hby at_122) rfl) ?_
      show own_End p e below P (T71.setTop (mkF m 123 #[.val (.int p0), .val (.int (1 : Int32)), .val (.ref b1), .val (.int (1 : Int32)), .val (.ref b1_62), .unset] [(.int (1 : Int32))]))
      refine own_st (fun _ => XS.istoreN X71.here hx rfl (hb hby at_123) rfl (l' := #[.val (.int p0), .val (.int (1 : Int32)), .val (.ref b1), .val (.int (1 : Int32)), .val (.ref b1_62), .unset]) rfl) ?_
      show own_End p e below P (T71.setTop (mkF m 124 #[.val (.int p0), .val (.int (1 : Int32)), .val (.ref b1), .val (.int (1 : Int32)), .val (.ref b1_62), .unset] []))
      refine own_st (fun _ => XS.aloadN X71.here hx rfl (hb hby at_124) rfl rfl) ?_
      show own_End p e below P (T71.setTop (mkF m 125 #[.val (.int p0), .val (.int (1 : Int32)), .val (.ref b1), .val (.int (1 : Int32)), .val (.ref b1_62), .unset] [(.ref b1)]))
      have G74 := (f0_59.keep Kq62)
      have G75 := (f1_59.keep Kq62 nin0)
      have G76 := (f2_59.keep Kq62 nin0)
      have G77 := (f3_59.keep Kq62 nin0)
      refine own_callV X71 hx hZ (y := (⟨"com/example/tallywire/tallywire/rules/GuidelineTree", "nextTally", "()I"⟩ : MethodName)) (z := (⟨"com/example/tallywire/tallywire/rules/GuidelineTree", "nextTally", "()I"⟩ : MethodName)) hown (hw _ (List.mem_of_getElem? (i := 200) rfl)) (hw _ (List.mem_of_getElem? (i := 201) rfl)) (notFace_of_selects (args := #[]) (mvT hZ (hw _ (List.mem_of_getElem? (i := 203) rfl)))) (hw _ (List.mem_of_getElem? (i := 203) rfl)) (hw _ (List.mem_of_getElem? (i := 202) rfl)) (hw _ (List.mem_of_getElem? (i := 2) rfl)) (hw _ (List.mem_of_getElem? (i := 204) rfl)) (by decide) G74 (own_mnt l Z a0 hw [] b1 b2_12 (0 : Int32) (1 : Int32) T62.heap n0 (Nat.le_trans Z0 K62.1) G74 G75 G76 G77 low_b1) 0 (by decide) (by decide) eq71 (by decide) (by decide) (g := (mkF m 125 #[.val (.int p0), .val (.int (1 : Int32)), .val (.ref b1), .val (.int (1 : Int32)), .val (.ref b1_62), .unset] [(.ref b1)])) rfl (by rw [hml']; rfl) (argsL := []) (rest := []) rfl (lenOf own_pd_I_154 rfl) rfl (by show 2 * 0 + _ ≤ _; exact Nat.le_of_eq rfl) (hb hby at_125) (fun r73 T73 L73 X73 hQ73 => ?_)
      obtain ⟨rfl, Nq73, Kq73, f0_73, f1_73, f2_73, f3_73⟩ := hQ73
      have N73 := Fr.app N71 Nq73
      have K73 := Keep.trans K62 Kq73 (allS (Or.inr sz_b1) all0)
      show own_End p e below P (T73.setTop (mkF m 128 #[.val (.int p0), .val (.int (1 : Int32)), .val (.ref b1), .val (.int (1 : Int32)), .val (.ref b1_62), .unset] [(.int (1 : Int32))]))
      refine own_st (fun _ => XS.istore X73.here hx rfl (hb hby at_128) rfl (l' := #[.val (.int p0), .val (.int (1 : Int32)), .val (.ref b1), .val (.int (1 : Int32)), .val (.ref b1_62), .val (.int (1 : Int32))]) rfl) ?_
      show own_End p e below P (T73.setTop (mkF m 130 #[.val (.int p0), .val (.int (1 : Int32)), .val (.ref b1), .val (.int (1 : Int32)), .val (.ref b1_62), .val (.int (1 : Int32))] []))
      refine own_st (fun _ => XS.iloadN X73.here hx rfl (hb hby at_130) rfl) ?_
      show own_End p e below P (T73.setTop (mkF m 131 #[.val (.int p0), .val (.int (1 : Int32)), .val (.ref b1), .val (.int (1 : Int32)), .val (.ref b1_62), .val (.int (1 : Int32))] [(.int (1 : Int32))]))
      refine own_st (fun _ => XS.iload X73.here hx rfl (hb hby at_131) rfl) ?_
      show own_End p e below P (T73.setTop (mkF m 133 #[.val (.int p0), .val (.int (1 : Int32)), .val (.ref b1), .val (.int (1 : Int32)), .val (.ref b1_62), .val (.int (1 : Int32))] [(.int (1 : Int32)), (.int (1 : Int32))]))
      refine own_st (fun _ => XS.iloadN X73.here hx rfl (hb hby at_133) rfl) ?_
      show own_End p e below P (T73.setTop (mkF m 134 #[.val (.int p0), .val (.int (1 : Int32)), .val (.ref b1), .val (.int (1 : Int32)), .val (.ref b1_62), .val (.int (1 : Int32))] [(.int (1 : Int32)), (.int (1 : Int32)), (.int (1 : Int32))]))
      refine own_st (fun _ => XS.icmpNo X73.here hx rfl (hb hby at_134) rfl (teq (by decide : (1 : Int32) = (1 : Int32))).2) ?_
      show own_End p e below P (T73.setTop (mkF m 137 #[.val (.int p0), .val (.int (1 : Int32)), .val (.ref b1), .val (.int (1 : Int32)), .val (.ref b1_62), .val (.int (1 : Int32))] [(.int (1 : Int32))]))
      refine own_st (fun _ => XS.iconst X73.here hx rfl (hb hby at_137)) ?_
      show own_End p e below P (T73.setTop (mkF m 138 #[.val (.int p0), .val (.int (1 : Int32)), .val (.ref b1), .val (.int (1 : Int32)), .val (.ref b1_62), .val (.int (1 : Int32))] [(.int (1 : Int32)), (.int (1 : Int32))]))
      refine own_st (fun _ => XS.goto X73.here hx rfl (pc0 := 138) (pc' := 142) rfl (hb hby at_138) (by decide) (by decide)) ?_
      show own_End p e below P (T73.setTop (mkF m 142 #[.val (.int p0), .val (.int (1 : Int32)), .val (.ref b1), .val (.int (1 : Int32)), .val (.ref b1_62), .val (.int (1 : Int32))] [(.int (1 : Int32)), (.int (1 : Int32))]))
      refine own_st (fun _ => XS.iand X73.here hx rfl (hb hby at_142) rfl) ?_
      show own_End p e below P (T73.setTop (mkF m 143 #[.val (.int p0), .val (.int (1 : Int32)), .val (.ref b1), .val (.int (1 : Int32)), .val (.ref b1_62), .val (.int (1 : Int32))] [(.int (1 : Int32))]))
      refine own_st (fun _ => XS.istoreN X73.here hx rfl (hb hby at_143) rfl (l' := #[.val (.int p0), .val (.int (1 : Int32)), .val (.ref b1), .val (.int (1 : Int32)), .val (.ref b1_62), .val (.int (1 : Int32))]) rfl) ?_
      show own_End p e below P (T73.setTop (mkF m 144 #[.val (.int p0), .val (.int (1 : Int32)), .val (.ref b1), .val (.int (1 : Int32)), .val (.ref b1_62), .val (.int (1 : Int32))] []))
      refine own_st (fun _ => XS.iloadN X73.here hx rfl (hb hby at_144) rfl) ?_
      show own_End p e below P (T73.setTop (mkF m 145 #[.val (.int p0), .val (.int (1 : Int32)), .val (.ref b1), .val (.int (1 : Int32)), .val (.ref b1_62), .val (.int (1 : Int32))] [(.int (1 : Int32))]))
      refine own_st (fun _ => XS.aloadN X73.here hx rfl (hb hby at_145) rfl rfl) ?_
      show own_End p e below P (T73.setTop (mkF m 146 #[.val (.int p0), .val (.int (1 : Int32)), .val (.ref b1), .val (.int (1 : Int32)), .val (.ref b1_62), .val (.int (1 : Int32))] [(.ref b1), (.int (1 : Int32))]))
      have G79 := ((G63.keep Kq62).keep Kq73)
      have G80 := (own_StaKeep (own_StaKeep G64 Kq62 all0) Kq73 (allS (own_nst G74) all0))
      refine own_callV X73 hx hZ (y := (⟨"com/example/tallywire/tallywire/rules/GuidelineTree", "layer", "()Lcom/example/tallywire/tallywire/rules/Layer;"⟩ : MethodName)) (z := (⟨"com/example/tallywire/tallywire/rules/GuidelineTree", "layer", "()Lcom/example/tallywire/tallywire/rules/Layer;"⟩ : MethodName)) hown (hw _ (List.mem_of_getElem? (i := 148) rfl)) (hw _ (List.mem_of_getElem? (i := 149) rfl)) (notFace_of_selects (args := #[]) (mvT hZ (hw _ (List.mem_of_getElem? (i := 151) rfl)))) (hw _ (List.mem_of_getElem? (i := 151) rfl)) (hw _ (List.mem_of_getElem? (i := 150) rfl)) (hw _ (List.mem_of_getElem? (i := 2) rfl)) (hw _ (List.mem_of_getElem? (i := 152) rfl)) (by decide) f0_73 (own_mlayer l Z a0 hw [] b1 b2_12 (0 : Int32) (2 : Int32) s_ImmutableCollections_EMPTY_SET T73.heap n0 (Nat.le_trans Z0 K73.1) G79 f1_73 f2_73 f3_73 G80) 1 (by decide) (by decide) rfl (by decide) (by decide) (g := (mkF m 146 #[.val (.int p0), .val (.int (1 : Int32)), .val (.ref b1), .val (.int (1 : Int32)), .val (.ref b1_62), .val (.int (1 : Int32))] [(.ref b1), (.int (1 : Int32))])) rfl (by rw [hml']; rfl) (argsL := []) (rest := [(.int (1 : Int32))]) rfl (lenOf own_pd_Lcom_example_tallywire_tallywire_rules_Layer_572 rfl) rfl (by show 2 * 0 + _ ≤ _; exact Nat.le_of_eq rfl) (hb hby at_146) (fun r78 T78 L78 X78 hQ78 => ?_)
      obtain ⟨b1_78, rfl, Nq78, Kq78, szq_b1_78, low_b1_78, f0_78, f1_78, f2_78⟩ := hQ78
      have N78 := Fr.app N73 Nq78
      have ne81 : b1 ≠ b1_78 := Nat.ne_of_lt (Nat.lt_of_lt_of_le f0_73.lt szq_b1_78)
      have G82 := (f0_62.keep Kq73)
      have ne83 : b1_62 ≠ b1_78 := Nat.ne_of_lt (Nat.lt_of_lt_of_le G82.lt szq_b1_78)
      have G84 := ((G66.keep Kq62).keep Kq73)
      have ne85 : b3 ≠ b1_78 := Nat.ne_of_lt (Nat.lt_of_lt_of_le G84.lt szq_b1_78)
      have ne86 : s_ImmutableCollections_EMPTY_SET ≠ b1_78 := Nat.ne_of_lt (Nat.lt_of_lt_of_le G79.lt szq_b1_78)
      have sz_b1_78 := Nat.le_trans K73.1 szq_b1_78
      have K78 := Keep.trans K73 Kq78 all0
      show own_End p e below P (T78.setTop (mkF m 149 #[.val (.int p0), .val (.int (1 : Int32)), .val (.ref b1), .val (.int (1 : Int32)), .val (.ref b1_62), .val (.int (1 : Int32))] [(.ref b1_78), (.int (1 : Int32))]))
      refine own_callV X78 hx hZ (y := (⟨"com/example/tallywire/tallywire/rules/Layer", "tallies", "()I"⟩ : MethodName)) (z := (⟨"com/example/tallywire/tallywire/rules/Layer", "tallies", "()I"⟩ : MethodName)) hown (hw _ (List.mem_of_getElem? (i := 190) rfl)) (hw _ (List.mem_of_getElem? (i := 191) rfl)) (notFace_of_selects (args := #[]) (mvT hZ (hw _ (List.mem_of_getElem? (i := 193) rfl)))) (hw _ (List.mem_of_getElem? (i := 193) rfl)) (hw _ (List.mem_of_getElem? (i := 192) rfl)) (hw _ (List.mem_of_getElem? (i := 155) rfl)) (hw _ (List.mem_of_getElem? (i := 194) rfl)) (by decide) f0_78 (own_mlt l Z a0 hw [] b1_78 (2 : Int32) T78.heap n0 (Nat.le_trans Z0 K78.1) f2_78) 1 (by decide) (by decide) rfl (by decide) (by decide) (g := (mkF m 149 #[.val (.int p0), .val (.int (1 : Int32)), .val (.ref b1), .val (.int (1 : Int32)), .val (.ref b1_62), .val (.int (1 : Int32))] [(.ref b1_78), (.int (1 : Int32))])) rfl (by rw [hml']; rfl) (argsL := []) (rest := [(.int (1 : Int32))]) rfl (lenOf own_pd_I_154 rfl) rfl (by show 2 * 0 + _ ≤ _; exact Nat.le_of_eq rfl) (hb hby at_149) (fun r87 T87 L87 X87 hQ87 => ?_)
      obtain ⟨rfl, Nq87, eq87⟩ := hQ87
      have N87 := Fr.app N78 Nq87
      show own_End p e below P (T87.setTop (mkF m 152 #[.val (.int p0), .val (.int (1 : Int32)), .val (.ref b1), .val (.int (1 : Int32)), .val (.ref b1_62), .val (.int (1 : Int32))] [(.int (own_flt (2 : Int32))), (.int (1 : Int32))]))
      refine own_st (fun _ => XS.iloadN X87.here hx rfl (hb hby at_152) rfl) ?_
      show own_End p e below P (T87.setTop (mkF m 153 #[.val (.int p0), .val (.int (1 : Int32)), .val (.ref b1), .val (.int (1 : Int32)), .val (.ref b1_62), .val (.int (1 : Int32))] [(.int (1 : Int32)), (.int (own_flt (2 : Int32))), (.int (1 : Int32))]))
      refine own_st (fun _ => XS.iconst X87.here hx rfl (hb hby at_153)) ?_
      show own_End p e below P (T87.setTop (mkF m 154 #[.val (.int p0), .val (.int (1 : Int32)), .val (.ref b1), .val (.int (1 : Int32)), .val (.ref b1_62), .val (.int (1 : Int32))] [(.int (1 : Int32)), (.int (1 : Int32)), (.int (own_flt (2 : Int32))), (.int (1 : Int32))]))
      refine own_st (fun _ => XS.iadd X87.here hx rfl (hb hby at_154) rfl) ?_
      show own_End p e below P (T87.setTop (mkF m 155 #[.val (.int p0), .val (.int (1 : Int32)), .val (.ref b1), .val (.int (1 : Int32)), .val (.ref b1_62), .val (.int (1 : Int32))] [(.int (2 : Int32)), (.int (own_flt (2 : Int32))), (.int (1 : Int32))]))
      have hd88 : (own_flt (2 : Int32)) = (2 : Int32) := by decide
      refine own_st (fun _ => XS.icmpNo X87.here hx rfl (hb hby at_155) rfl (teq hd88).2) ?_
      show own_End p e below P (T87.setTop (mkF m 158 #[.val (.int p0), .val (.int (1 : Int32)), .val (.ref b1), .val (.int (1 : Int32)), .val (.ref b1_62), .val (.int (1 : Int32))] [(.int (1 : Int32))]))
      refine own_st (fun _ => XS.iconst X87.here hx rfl (hb hby at_158)) ?_
      show own_End p e below P (T87.setTop (mkF m 159 #[.val (.int p0), .val (.int (1 : Int32)), .val (.ref b1), .val (.int (1 : Int32)), .val (.ref b1_62), .val (.int (1 : Int32))] [(.int (1 : Int32)), (.int (1 : Int32))]))
      refine own_st (fun _ => XS.goto X87.here hx rfl (pc0 := 159) (pc' := 163) rfl (hb hby at_159) (by decide) (by decide)) ?_
      show own_End p e below P (T87.setTop (mkF m 163 #[.val (.int p0), .val (.int (1 : Int32)), .val (.ref b1), .val (.int (1 : Int32)), .val (.ref b1_62), .val (.int (1 : Int32))] [(.int (1 : Int32)), (.int (1 : Int32))]))
      refine own_st (fun _ => XS.iand X87.here hx rfl (hb hby at_163) rfl) ?_
      show own_End p e below P (T87.setTop (mkF m 164 #[.val (.int p0), .val (.int (1 : Int32)), .val (.ref b1), .val (.int (1 : Int32)), .val (.ref b1_62), .val (.int (1 : Int32))] [(.int (1 : Int32))]))
      refine own_st (fun _ => XS.istoreN X87.here hx rfl (hb hby at_164) rfl (l' := #[.val (.int p0), .val (.int (1 : Int32)), .val (.ref b1), .val (.int (1 : Int32)), .val (.ref b1_62), .val (.int (1 : Int32))]) rfl) ?_
      show own_End p e below P (T87.setTop (mkF m 165 #[.val (.int p0), .val (.int (1 : Int32)), .val (.ref b1), .val (.int (1 : Int32)), .val (.ref b1_62), .val (.int (1 : Int32))] []))
      refine own_st (fun _ => XS.iloadN X87.here hx rfl (hb hby at_165) rfl) ?_
      show own_End p e below P (T87.setTop (mkF m 166 #[.val (.int p0), .val (.int (1 : Int32)), .val (.ref b1), .val (.int (1 : Int32)), .val (.ref b1_62), .val (.int (1 : Int32))] [(.int (1 : Int32))]))
      have G89 := (Nat.le_trans (Nat.le_trans (Nat.le_trans (Nat.le_trans hk12 Kq59.1) Kq62.1) Kq73.1) Kq78.1)
      exact own_retNW X87 hS G89 eq87 hx hlk hP (t := .boolean) (by simp) hrt (hb hby at_166) (by decide) (by decide) ⟨rfl, N87⟩
    · refine own_st (fun _ => XS.icmpNo X59.here hx rfl (hb hby at_45) rfl (flt hc60).1) ?_
      show own_End p e below P (T59.setTop (mkF m 48 #[.val (.int p0), .val (.int k), .val (.ref b1), .val (.int (1 : Int32)), .unset, .unset] []))
      refine own_st (fun _ => XS.iloadN X59.here hx rfl (hb hby at_48) rfl) ?_
      show own_End p e below P (T59.setTop (mkF m 49 #[.val (.int p0), .val (.int k), .val (.ref b1), .val (.int (1 : Int32)), .unset, .unset] [(.int (1 : Int32))]))
      refine own_st (fun _ => XS.aloadN X59.here hx rfl (hb hby at_49) rfl rfl) ?_
      show own_End p e below P (T59.setTop (mkF m 50 #[.val (.int p0), .val (.int k), .val (.ref b1), .val (.int (1 : Int32)), .unset, .unset] [(.ref b1), (.int (1 : Int32))]))
      refine own_callV X59 hx hZ (y := (⟨"com/example/tallywire/tallywire/rules/GuidelineTree", "nextTally", "()I"⟩ : MethodName)) (z := (⟨"com/example/tallywire/tallywire/rules/GuidelineTree", "nextTally", "()I"⟩ : MethodName)) hown (hw _ (List.mem_of_getElem? (i := 200) rfl)) (hw _ (List.mem_of_getElem? (i := 201) rfl)) (notFace_of_selects (args := #[]) (mvT hZ (hw _ (List.mem_of_getElem? (i := 203) rfl)))) (hw _ (List.mem_of_getElem? (i := 203) rfl)) (hw _ (List.mem_of_getElem? (i := 202) rfl)) (hw _ (List.mem_of_getElem? (i := 2) rfl)) (hw _ (List.mem_of_getElem? (i := 204) rfl)) (by decide) f0_59 (own_mnt l Z a0 hw [] b1 b2_12 (0 : Int32) (1 : Int32) T59.heap n0 (Nat.le_trans Z0 K59.1) f0_59 f1_59 f2_59 f3_59 low_b1) 1 (by decide) (by decide) rfl (by decide) (by decide) (g := (mkF m 50 #[.val (.int p0), .val (.int k), .val (.ref b1), .val (.int (1 : Int32)), .unset, .unset] [(.ref b1), (.int (1 : Int32))])) rfl (by rw [hml']; rfl) (argsL := []) (rest := [(.int (1 : Int32))]) rfl (lenOf own_pd_I_154 rfl) rfl (by show 2 * 0 + _ ≤ _; exact Nat.le_of_eq rfl) (hb hby at_50) (fun r90 T90 L90 X90 hQ90 => ?_)
      obtain ⟨rfl, Nq90, Kq90, f0_90, f1_90, f2_90, f3_90⟩ := hQ90
      have N90 := Fr.app N59 Nq90
      have K90 := Keep.trans K59 Kq90 (allS (Or.inr sz_b1) all0)
      show own_End p e below P (T90.setTop (mkF m 53 #[.val (.int p0), .val (.int k), .val (.ref b1), .val (.int (1 : Int32)), .unset, .unset] [(.int (1 : Int32)), (.int (1 : Int32))]))
      refine own_st (fun _ => XS.iconst X90.here hx rfl (hb hby at_53)) ?_
      show own_End p e below P (T90.setTop (mkF m 54 #[.val (.int p0), .val (.int k), .val (.ref b1), .val (.int (1 : Int32)), .unset, .unset] [(.int (1 : Int32)), (.int (1 : Int32)), (.int (1 : Int32))]))
      refine own_st (fun _ => XS.icmpNo X90.here hx rfl (hb hby at_54) rfl (teq (by decide : (1 : Int32) = (1 : Int32))).2) ?_
      show own_End p e below P (T90.setTop (mkF m 57 #[.val (.int p0), .val (.int k), .val (.ref b1), .val (.int (1 : Int32)), .unset, .unset] [(.int (1 : Int32))]))
      refine own_st (fun _ => XS.iconst X90.here hx rfl (hb hby at_57)) ?_
      show own_End p e below P (T90.setTop (mkF m 58 #[.val (.int p0), .val (.int k), .val (.ref b1), .val (.int (1 : Int32)), .unset, .unset] [(.int (1 : Int32)), (.int (1 : Int32))]))
      refine own_st (fun _ => XS.goto X90.here hx rfl (pc0 := 58) (pc' := 62) rfl (hb hby at_58) (by decide) (by decide)) ?_
      show own_End p e below P (T90.setTop (mkF m 62 #[.val (.int p0), .val (.int k), .val (.ref b1), .val (.int (1 : Int32)), .unset, .unset] [(.int (1 : Int32)), (.int (1 : Int32))]))
      refine own_st (fun _ => XS.iand X90.here hx rfl (hb hby at_62) rfl) ?_
      show own_End p e below P (T90.setTop (mkF m 63 #[.val (.int p0), .val (.int k), .val (.ref b1), .val (.int (1 : Int32)), .unset, .unset] [(.int (1 : Int32))]))
      refine own_st (fun _ => XS.istoreN X90.here hx rfl (hb hby at_63) rfl (l' := #[.val (.int p0), .val (.int k), .val (.ref b1), .val (.int (1 : Int32)), .unset, .unset]) rfl) ?_
      show own_End p e below P (T90.setTop (mkF m 64 #[.val (.int p0), .val (.int k), .val (.ref b1), .val (.int (1 : Int32)), .unset, .unset] []))
      refine own_st (fun _ => XS.iloadN X90.here hx rfl (hb hby at_64) rfl) ?_
      show own_End p e below P (T90.setTop (mkF m 65 #[.val (.int p0), .val (.int k), .val (.ref b1), .val (.int (1 : Int32)), .unset, .unset] [(.int k)]))
      refine own_st (fun _ => XS.iconst X90.here hx rfl (hb hby at_65)) ?_
      show own_End p e below P (T90.setTop (mkF m 66 #[.val (.int p0), .val (.int k), .val (.ref b1), .val (.int (1 : Int32)), .unset, .unset] [(.int (3 : Int32)), (.int k)]))
      by_cases hc91 : k < (3 : Int32)
      · refine own_st (fun _ => XS.icmpYes X90.here hx rfl (pc0 := 66) (pc' := 85) rfl (hb hby at_66) rfl (tlt hc91).1 (by decide) (by decide)) ?_
        show own_End p e below P (T90.setTop (mkF m 85 #[.val (.int p0), .val (.int k), .val (.ref b1), .val (.int (1 : Int32)), .unset, .unset] []))
        have hb0 := own_hi hc91
        have hb1 := own_lo hc60
        have hcc := own_c
        have hkv : (2 : Int32) = k := own_eqk (by omega)
        subst hkv
        show own_End p e below P (T90.setTop (mkF m 85 #[.val (.int p0), .val (.int (2 : Int32)), .val (.ref b1), .val (.int (1 : Int32)), .unset, .unset] []))
        refine own_st (fun _ => XS.aloadN X90.here hx rfl (hb hby at_85) rfl rfl) ?_
        show own_End p e below P (T90.setTop (mkF m 86 #[.val (.int p0), .val (.int (2 : Int32)), .val (.ref b1), .val (.int (1 : Int32)), .unset, .unset] [(.ref b1)]))
        have G93 := (((G26.keep Kq12).keep Kq59).keep Kq90)
        have G94 := (own_StaKeep (own_StaKeep (own_StaKeep (own_StaKeep (((S_ImmutableCollections_EMPTY_SET.ext E1).ext E3).ext E7) Kq9 (allS (own_nst G10) all0)) Kq12 (allS (own_nst G13) all0)) Kq59 (allS (own_nst f0_12) all0)) Kq90 (allS (own_nst f0_59) all0))
        refine own_callV X90 hx hZ (y := (⟨"com/example/tallywire/tallywire/rules/GuidelineTree", "layer", "()Lcom/example/tallywire/tallywire/rules/Layer;"⟩ : MethodName)) (z := (⟨"com/example/tallywire/tallywire/rules/GuidelineTree", "layer", "()Lcom/example/tallywire/tallywire/rules/Layer;"⟩ : MethodName)) hown (hw _ (List.mem_of_getElem? (i := 148) rfl)) (hw _ (List.mem_of_getElem? (i := 149) rfl)) (notFace_of_selects (args := #[]) (mvT hZ (hw _ (List.mem_of_getElem? (i := 151) rfl)))) (hw _ (List.mem_of_getElem? (i := 151) rfl)) (hw _ (List.mem_of_getElem? (i := 150) rfl)) (hw _ (List.mem_of_getElem? (i := 2) rfl)) (hw _ (List.mem_of_getElem? (i := 152) rfl)) (by decide) f0_90 (own_mlayer l Z a0 hw [] b1 b2_12 (0 : Int32) (2 : Int32) s_ImmutableCollections_EMPTY_SET T90.heap n0 (Nat.le_trans Z0 K90.1) G93 f1_90 f2_90 f3_90 G94) 0 (by decide) (by decide) rfl (by decide) (by decide) (g := (mkF m 86 #[.val (.int p0), .val (.int (2 : Int32)), .val (.ref b1), .val (.int (1 : Int32)), .unset, .unset] [(.ref b1)])) rfl (by rw [hml']; rfl) (argsL := []) (rest := []) rfl (lenOf own_pd_Lcom_example_tallywire_tallywire_rules_Layer_572 rfl) rfl (by show 2 * 0 + _ ≤ _; exact Nat.le_of_eq rfl) (hb hby at_86) (fun r92 T92 L92 X92 hQ92 => ?_)
        obtain ⟨b1_92, rfl, Nq92, Kq92, szq_b1_92, low_b1_92, f0_92, f1_92, f2_92⟩ := hQ92
        have N92 := Fr.app N90 Nq92
        have ne95 : b1 ≠ b1_92 := Nat.ne_of_lt (Nat.lt_of_lt_of_le f0_90.lt szq_b1_92)
        have G96 := (((f0_9.keep Kq12).keep Kq59).keep Kq90)
        have ne97 : b3 ≠ b1_92 := Nat.ne_of_lt (Nat.lt_of_lt_of_le G96.lt szq_b1_92)
        have ne98 : s_ImmutableCollections_EMPTY_SET ≠ b1_92 := Nat.ne_of_lt (Nat.lt_of_lt_of_le G93.lt szq_b1_92)
        have sz_b1_92 := Nat.le_trans K90.1 szq_b1_92
        have K92 := Keep.trans K90 Kq92 all0
        show own_End p e below P (T92.setTop (mkF m 89 #[.val (.int p0), .val (.int (2 : Int32)), .val (.ref b1), .val (.int (1 : Int32)), .unset, .unset] [(.ref b1_92)]))
        refine own_st (fun _ => XS.astore X92.here hx rfl (hb hby at_89) rfl rfl (l' := #[.val (.int p0), .val (.int (2 : Int32)), .val (.ref b1), .val (.int (1 : Int32)), .val (.ref b1_92), .unset]) rfl) ?_
        show own_End p e below P (T92.setTop (mkF m 91 #[.val (.int p0), .val (.int (2 : Int32)), .val (.ref b1), .val (.int (1 : Int32)), .val (.ref b1_92), .unset] []))
        refine own_st (fun _ => XS.iloadN X92.here hx rfl (hb hby at_91) rfl) ?_
        show own_End p e below P (T92.setTop (mkF m 92 #[.val (.int p0), .val (.int (2 : Int32)), .val (.ref b1), .val (.int (1 : Int32)), .val (.ref b1_92), .unset] [(.int (1 : Int32))]))
        refine own_st (fun _ => XS.aload X92.here hx rfl (hb hby at_92) rfl rfl) ?_
        show own_End p e below P (T92.setTop (mkF m 94 #[.val (.int p0), .val (.int (2 : Int32)), .val (.ref b1), .val (.int (1 : Int32)), .val (.ref b1_92), .unset] [(.ref b1_92), (.int (1 : Int32))]))
        refine own_callV X92 hx hZ (y := (⟨"com/example/tallywire/tallywire/rules/Layer", "tallies", "()I"⟩ : MethodName)) (z := (⟨"com/example/tallywire/tallywire/rules/Layer", "tallies", "()I"⟩ : MethodName)) hown (hw _ (List.mem_of_getElem? (i := 190) rfl)) (hw _ (List.mem_of_getElem? (i := 191) rfl)) (notFace_of_selects (args := #[]) (mvT hZ (hw _ (List.mem_of_getElem? (i := 193) rfl)))) (hw _ (List.mem_of_getElem? (i := 193) rfl)) (hw _ (List.mem_of_getElem? (i := 192) rfl)) (hw _ (List.mem_of_getElem? (i := 155) rfl)) (hw _ (List.mem_of_getElem? (i := 194) rfl)) (by decide) f0_92 (own_mlt l Z a0 hw [] b1_92 (2 : Int32) T92.heap n0 (Nat.le_trans Z0 K92.1) f2_92) 1 (by decide) (by decide) rfl (by decide) (by decide) (g := (mkF m 94 #[.val (.int p0), .val (.int (2 : Int32)), .val (.ref b1), .val (.int (1 : Int32)), .val (.ref b1_92), .unset] [(.ref b1_92), (.int (1 : Int32))])) rfl (by rw [hml']; rfl) (argsL := []) (rest := [(.int (1 : Int32))]) rfl (lenOf own_pd_I_154 rfl) rfl (by show 2 * 0 + _ ≤ _; exact Nat.le_of_eq rfl) (hb hby at_94) (fun r99 T99 L99 X99 hQ99 => ?_)
        obtain ⟨rfl, Nq99, eq99⟩ := hQ99
        have N99 := Fr.app N92 Nq99
        show own_End p e below P (T99.setTop (mkF m 97 #[.val (.int p0), .val (.int (2 : Int32)), .val (.ref b1), .val (.int (1 : Int32)), .val (.ref b1_92), .unset] [(.int (own_flt (2 : Int32))), (.int (1 : Int32))]))
        refine own_st (fun _ => XS.iloadN X99.here hx rfl (hb hby at_97) rfl) ?_
        show own_End p e below P (T99.setTop (mkF m 98 #[.val (.int p0), .val (.int (2 : Int32)), .val (.ref b1), .val (.int (1 : Int32)), .val (.ref b1_92), .unset] [(.int (2 : Int32)), (.int (own_flt (2 : Int32))), (.int (1 : Int32))]))
        have hd100 : (own_flt (2 : Int32)) = (2 : Int32) := by decide
        refine own_st (fun _ => XS.icmpNo X99.here hx rfl (hb hby at_98) rfl (teq hd100).2) ?_
        show own_End p e below P (T99.setTop (mkF m 101 #[.val (.int p0), .val (.int (2 : Int32)), .val (.ref b1), .val (.int (1 : Int32)), .val (.ref b1_92), .unset] [(.int (1 : Int32))]))
        refine own_st (fun _ => XS.iconst X99.here hx rfl (hb hby at_101)) ?_
        show own_End p e below P (T99.setTop (mkF m 102 #[.val (.int p0), .val (.int (2 : Int32)), .val (.ref b1), .val (.int (1 : Int32)), .val (.ref b1_92), .unset] [(.int (1 : Int32)), (.int (1 : Int32))]))
        refine own_st (fun _ => XS.goto X99.here hx rfl (pc0 := 102) (pc' := 106) rfl (hb hby at_102) (by decide) (by decide)) ?_
        show own_End p e below P (T99.setTop (mkF m 106 #[.val (.int p0), .val (.int (2 : Int32)), .val (.ref b1), .val (.int (1 : Int32)), .val (.ref b1_92), .unset] [(.int (1 : Int32)), (.int (1 : Int32))]))
        refine own_st (fun _ => XS.iand X99.here hx rfl (hb hby at_106) rfl) ?_
        show own_End p e below P (T99.setTop (mkF m 107 #[.val (.int p0), .val (.int (2 : Int32)), .val (.ref b1), .val (.int (1 : Int32)), .val (.ref b1_92), .unset] [(.int (1 : Int32))]))
        refine own_st (fun _ => XS.istoreN X99.here hx rfl (hb hby at_107) rfl (l' := #[.val (.int p0), .val (.int (2 : Int32)), .val (.ref b1), .val (.int (1 : Int32)), .val (.ref b1_92), .unset]) rfl) ?_
        show own_End p e below P (T99.setTop (mkF m 108 #[.val (.int p0), .val (.int (2 : Int32)), .val (.ref b1), .val (.int (1 : Int32)), .val (.ref b1_92), .unset] []))
        refine own_st (fun _ => XS.iloadN X99.here hx rfl (hb hby at_108) rfl) ?_
        show own_End p e below P (T99.setTop (mkF m 109 #[.val (.int p0), .val (.int (2 : Int32)), .val (.ref b1), .val (.int (1 : Int32)), .val (.ref b1_92), .unset] [(.int (1 : Int32))]))
        refine own_st (fun _ => XS.aload X99.here hx rfl (hb hby at_109) rfl rfl) ?_
        show own_End p e below P (T99.setTop (mkF m 111 #[.val (.int p0), .val (.int (2 : Int32)), .val (.ref b1), .val (.int (1 : Int32)), .val (.ref b1_92), .unset] [(.ref b1_92), (.int (1 : Int32))]))
        refine own_callV X99 hx hZ (y := (⟨"com/example/tallywire/tallywire/rules/Layer", "facts", "()I"⟩ : MethodName)) (z := (⟨"com/example/tallywire/tallywire/rules/Layer", "facts", "()I"⟩ : MethodName)) hown (hw _ (List.mem_of_getElem? (i := 195) rfl)) (hw _ (List.mem_of_getElem? (i := 196) rfl)) (notFace_of_selects (args := #[]) (mvT hZ (hw _ (List.mem_of_getElem? (i := 198) rfl)))) (hw _ (List.mem_of_getElem? (i := 198) rfl)) (hw _ (List.mem_of_getElem? (i := 197) rfl)) (hw _ (List.mem_of_getElem? (i := 155) rfl)) (hw _ (List.mem_of_getElem? (i := 199) rfl)) (by decide) f0_92 (own_mlf l Z a0 hw [] b1_92 (0 : Int32) T92.heap n0 (Nat.le_trans Z0 K92.1) f1_92) 1 (by decide) (by decide) eq99 (by decide) (by decide) (g := (mkF m 111 #[.val (.int p0), .val (.int (2 : Int32)), .val (.ref b1), .val (.int (1 : Int32)), .val (.ref b1_92), .unset] [(.ref b1_92), (.int (1 : Int32))])) rfl (by rw [hml']; rfl) (argsL := []) (rest := [(.int (1 : Int32))]) rfl (lenOf own_pd_I_154 rfl) rfl (by show 2 * 0 + _ ≤ _; exact Nat.le_of_eq rfl) (hb hby at_111) (fun r101 T101 L101 X101 hQ101 => ?_)
        obtain ⟨rfl, Nq101, eq101⟩ := hQ101
        have N101 := Fr.app N99 Nq101
        show own_End p e below P (T101.setTop (mkF m 114 #[.val (.int p0), .val (.int (2 : Int32)), .val (.ref b1), .val (.int (1 : Int32)), .val (.ref b1_92), .unset] [(.int (own_flf (0 : Int32))), (.int (1 : Int32))]))
        have hd102 : (own_flf (0 : Int32)) = (0 : Int32) := by decide
        refine own_st (fun _ => XS.ifNo X101.here hx rfl (hb hby at_114) rfl ((if0 _ _).trans (teq hd102).2)) ?_
        show own_End p e below P (T101.setTop (mkF m 117 #[.val (.int p0), .val (.int (2 : Int32)), .val (.ref b1), .val (.int (1 : Int32)), .val (.ref b1_92), .unset] [(.int (1 : Int32))]))
        refine own_st (fun _ => XS.iconst X101.here hx rfl (hb hby at_117)) ?_
        show own_End p e below P (T101.setTop (mkF m 118 #[.val (.int p0), .val (.int (2 : Int32)), .val (.ref b1), .val (.int (1 : Int32)), .val (.ref b1_92), .unset] [(.int (1 : Int32)), (.int (1 : Int32))]))
        refine own_st (fun _ => XS.goto X101.here hx rfl (pc0 := 118) (pc' := 122) rfl (hb hby at_118) (by decide) (by decide)) ?_
        show own_End p e below P (T101.setTop (mkF m 122 #[.val (.int p0), .val (.int (2 : Int32)), .val (.ref b1), .val (.int (1 : Int32)), .val (.ref b1_92), .unset] [(.int (1 : Int32)), (.int (1 : Int32))]))
        refine own_st (fun _ => XS.iand X101.here hx rfl (hb hby at_122) rfl) ?_
        show own_End p e below P (T101.setTop (mkF m 123 #[.val (.int p0), .val (.int (2 : Int32)), .val (.ref b1), .val (.int (1 : Int32)), .val (.ref b1_92), .unset] [(.int (1 : Int32))]))
        refine own_st (fun _ => XS.istoreN X101.here hx rfl (hb hby at_123) rfl (l' := #[.val (.int p0), .val (.int (2 : Int32)), .val (.ref b1), .val (.int (1 : Int32)), .val (.ref b1_92), .unset]) rfl) ?_
        show own_End p e below P (T101.setTop (mkF m 124 #[.val (.int p0), .val (.int (2 : Int32)), .val (.ref b1), .val (.int (1 : Int32)), .val (.ref b1_92), .unset] []))
        refine own_st (fun _ => XS.aloadN X101.here hx rfl (hb hby at_124) rfl rfl) ?_
        show own_End p e below P (T101.setTop (mkF m 125 #[.val (.int p0), .val (.int (2 : Int32)), .val (.ref b1), .val (.int (1 : Int32)), .val (.ref b1_92), .unset] [(.ref b1)]))
        have G104 := (f0_90.keep Kq92)
        have G105 := (f1_90.keep Kq92 nin0)
        have G106 := (f2_90.keep Kq92 nin0)
        have G107 := (f3_90.keep Kq92 nin0)
        refine own_callV X101 hx hZ (y := (⟨"com/example/tallywire/tallywire/rules/GuidelineTree", "nextTally", "()I"⟩ : MethodName)) (z := (⟨"com/example/tallywire/tallywire/rules/GuidelineTree", "nextTally", "()I"⟩ : MethodName)) hown (hw _ (List.mem_of_getElem? (i := 200) rfl)) (hw _ (List.mem_of_getElem? (i := 201) rfl)) (notFace_of_selects (args := #[]) (mvT hZ (hw _ (List.mem_of_getElem? (i := 203) rfl)))) (hw _ (List.mem_of_getElem? (i := 203) rfl)) (hw _ (List.mem_of_getElem? (i := 202) rfl)) (hw _ (List.mem_of_getElem? (i := 2) rfl)) (hw _ (List.mem_of_getElem? (i := 204) rfl)) (by decide) G104 (own_mnt l Z a0 hw [] b1 b2_12 (0 : Int32) (2 : Int32) T92.heap n0 (Nat.le_trans Z0 K92.1) G104 G105 G106 G107 low_b1) 0 (by decide) (by decide) eq101 (by decide) (by decide) (g := (mkF m 125 #[.val (.int p0), .val (.int (2 : Int32)), .val (.ref b1), .val (.int (1 : Int32)), .val (.ref b1_92), .unset] [(.ref b1)])) rfl (by rw [hml']; rfl) (argsL := []) (rest := []) rfl (lenOf own_pd_I_154 rfl) rfl (by show 2 * 0 + _ ≤ _; exact Nat.le_of_eq rfl) (hb hby at_125) (fun r103 T103 L103 X103 hQ103 => ?_)
        obtain ⟨rfl, Nq103, Kq103, f0_103, f1_103, f2_103, f3_103⟩ := hQ103
        have N103 := Fr.app N101 Nq103
        have K103 := Keep.trans K92 Kq103 (allS (Or.inr sz_b1) all0)
        show own_End p e below P (T103.setTop (mkF m 128 #[.val (.int p0), .val (.int (2 : Int32)), .val (.ref b1), .val (.int (1 : Int32)), .val (.ref b1_92), .unset] [(.int (2 : Int32))]))
        refine own_st (fun _ => XS.istore X103.here hx rfl (hb hby at_128) rfl (l' := #[.val (.int p0), .val (.int (2 : Int32)), .val (.ref b1), .val (.int (1 : Int32)), .val (.ref b1_92), .val (.int (2 : Int32))]) rfl) ?_
        show own_End p e below P (T103.setTop (mkF m 130 #[.val (.int p0), .val (.int (2 : Int32)), .val (.ref b1), .val (.int (1 : Int32)), .val (.ref b1_92), .val (.int (2 : Int32))] []))
        refine own_st (fun _ => XS.iloadN X103.here hx rfl (hb hby at_130) rfl) ?_
        show own_End p e below P (T103.setTop (mkF m 131 #[.val (.int p0), .val (.int (2 : Int32)), .val (.ref b1), .val (.int (1 : Int32)), .val (.ref b1_92), .val (.int (2 : Int32))] [(.int (1 : Int32))]))
        refine own_st (fun _ => XS.iload X103.here hx rfl (hb hby at_131) rfl) ?_
        show own_End p e below P (T103.setTop (mkF m 133 #[.val (.int p0), .val (.int (2 : Int32)), .val (.ref b1), .val (.int (1 : Int32)), .val (.ref b1_92), .val (.int (2 : Int32))] [(.int (2 : Int32)), (.int (1 : Int32))]))
        refine own_st (fun _ => XS.iloadN X103.here hx rfl (hb hby at_133) rfl) ?_
        show own_End p e below P (T103.setTop (mkF m 134 #[.val (.int p0), .val (.int (2 : Int32)), .val (.ref b1), .val (.int (1 : Int32)), .val (.ref b1_92), .val (.int (2 : Int32))] [(.int (2 : Int32)), (.int (2 : Int32)), (.int (1 : Int32))]))
        refine own_st (fun _ => XS.icmpNo X103.here hx rfl (hb hby at_134) rfl (teq (by decide : (2 : Int32) = (2 : Int32))).2) ?_
        show own_End p e below P (T103.setTop (mkF m 137 #[.val (.int p0), .val (.int (2 : Int32)), .val (.ref b1), .val (.int (1 : Int32)), .val (.ref b1_92), .val (.int (2 : Int32))] [(.int (1 : Int32))]))
        refine own_st (fun _ => XS.iconst X103.here hx rfl (hb hby at_137)) ?_
        show own_End p e below P (T103.setTop (mkF m 138 #[.val (.int p0), .val (.int (2 : Int32)), .val (.ref b1), .val (.int (1 : Int32)), .val (.ref b1_92), .val (.int (2 : Int32))] [(.int (1 : Int32)), (.int (1 : Int32))]))
        refine own_st (fun _ => XS.goto X103.here hx rfl (pc0 := 138) (pc' := 142) rfl (hb hby at_138) (by decide) (by decide)) ?_
        show own_End p e below P (T103.setTop (mkF m 142 #[.val (.int p0), .val (.int (2 : Int32)), .val (.ref b1), .val (.int (1 : Int32)), .val (.ref b1_92), .val (.int (2 : Int32))] [(.int (1 : Int32)), (.int (1 : Int32))]))
        refine own_st (fun _ => XS.iand X103.here hx rfl (hb hby at_142) rfl) ?_
        show own_End p e below P (T103.setTop (mkF m 143 #[.val (.int p0), .val (.int (2 : Int32)), .val (.ref b1), .val (.int (1 : Int32)), .val (.ref b1_92), .val (.int (2 : Int32))] [(.int (1 : Int32))]))
        refine own_st (fun _ => XS.istoreN X103.here hx rfl (hb hby at_143) rfl (l' := #[.val (.int p0), .val (.int (2 : Int32)), .val (.ref b1), .val (.int (1 : Int32)), .val (.ref b1_92), .val (.int (2 : Int32))]) rfl) ?_
        show own_End p e below P (T103.setTop (mkF m 144 #[.val (.int p0), .val (.int (2 : Int32)), .val (.ref b1), .val (.int (1 : Int32)), .val (.ref b1_92), .val (.int (2 : Int32))] []))
        refine own_st (fun _ => XS.iloadN X103.here hx rfl (hb hby at_144) rfl) ?_
        show own_End p e below P (T103.setTop (mkF m 145 #[.val (.int p0), .val (.int (2 : Int32)), .val (.ref b1), .val (.int (1 : Int32)), .val (.ref b1_92), .val (.int (2 : Int32))] [(.int (1 : Int32))]))
        refine own_st (fun _ => XS.aloadN X103.here hx rfl (hb hby at_145) rfl rfl) ?_
        show own_End p e below P (T103.setTop (mkF m 146 #[.val (.int p0), .val (.int (2 : Int32)), .val (.ref b1), .val (.int (1 : Int32)), .val (.ref b1_92), .val (.int (2 : Int32))] [(.ref b1), (.int (1 : Int32))]))
        have G109 := ((G93.keep Kq92).keep Kq103)
        have G110 := (own_StaKeep (own_StaKeep G94 Kq92 all0) Kq103 (allS (own_nst G104) all0))
        refine own_callV X103 hx hZ (y := (⟨"com/example/tallywire/tallywire/rules/GuidelineTree", "layer", "()Lcom/example/tallywire/tallywire/rules/Layer;"⟩ : MethodName)) (z := (⟨"com/example/tallywire/tallywire/rules/GuidelineTree", "layer", "()Lcom/example/tallywire/tallywire/rules/Layer;"⟩ : MethodName)) hown (hw _ (List.mem_of_getElem? (i := 148) rfl)) (hw _ (List.mem_of_getElem? (i := 149) rfl)) (notFace_of_selects (args := #[]) (mvT hZ (hw _ (List.mem_of_getElem? (i := 151) rfl)))) (hw _ (List.mem_of_getElem? (i := 151) rfl)) (hw _ (List.mem_of_getElem? (i := 150) rfl)) (hw _ (List.mem_of_getElem? (i := 2) rfl)) (hw _ (List.mem_of_getElem? (i := 152) rfl)) (by decide) f0_103 (own_mlayer l Z a0 hw [] b1 b2_12 (0 : Int32) (3 : Int32) s_ImmutableCollections_EMPTY_SET T103.heap n0 (Nat.le_trans Z0 K103.1) G109 f1_103 f2_103 f3_103 G110) 1 (by decide) (by decide) rfl (by decide) (by decide) (g := (mkF m 146 #[.val (.int p0), .val (.int (2 : Int32)), .val (.ref b1), .val (.int (1 : Int32)), .val (.ref b1_92), .val (.int (2 : Int32))] [(.ref b1), (.int (1 : Int32))])) rfl (by rw [hml']; rfl) (argsL := []) (rest := [(.int (1 : Int32))]) rfl (lenOf own_pd_Lcom_example_tallywire_tallywire_rules_Layer_572 rfl) rfl (by show 2 * 0 + _ ≤ _; exact Nat.le_of_eq rfl) (hb hby at_146) (fun r108 T108 L108 X108 hQ108 => ?_)
        obtain ⟨b1_108, rfl, Nq108, Kq108, szq_b1_108, low_b1_108, f0_108, f1_108, f2_108⟩ := hQ108
        have N108 := Fr.app N103 Nq108
        have ne111 : b1 ≠ b1_108 := Nat.ne_of_lt (Nat.lt_of_lt_of_le f0_103.lt szq_b1_108)
        have G112 := (f0_92.keep Kq103)
        have ne113 : b1_92 ≠ b1_108 := Nat.ne_of_lt (Nat.lt_of_lt_of_le G112.lt szq_b1_108)
        have G114 := ((G96.keep Kq92).keep Kq103)
        have ne115 : b3 ≠ b1_108 := Nat.ne_of_lt (Nat.lt_of_lt_of_le G114.lt szq_b1_108)
        have ne116 : s_ImmutableCollections_EMPTY_SET ≠ b1_108 := Nat.ne_of_lt (Nat.lt_of_lt_of_le G109.lt szq_b1_108)
        have sz_b1_108 := Nat.le_trans K103.1 szq_b1_108
        have K108 := Keep.trans K103 Kq108 all0
        show own_End p e below P (T108.setTop (mkF m 149 #[.val (.int p0), .val (.int (2 : Int32)), .val (.ref b1), .val (.int (1 : Int32)), .val (.ref b1_92), .val (.int (2 : Int32))] [(.ref b1_108), (.int (1 : Int32))]))
        refine own_callV X108 hx hZ (y := (⟨"com/example/tallywire/tallywire/rules/Layer", "tallies", "()I"⟩ : MethodName)) (z := (⟨"com/example/tallywire/tallywire/rules/Layer", "tallies", "()I"⟩ : MethodName)) hown (hw _ (List.mem_of_getElem? (i := 190) rfl)) (hw _ (List.mem_of_getElem? (i := 191) rfl)) (notFace_of_selects (args := #[]) (mvT hZ (hw _ (List.mem_of_getElem? (i := 193) rfl)))) (hw _ (List.mem_of_getElem? (i := 193) rfl)) (hw _ (List.mem_of_getElem? (i := 192) rfl)) (hw _ (List.mem_of_getElem? (i := 155) rfl)) (hw _ (List.mem_of_getElem? (i := 194) rfl)) (by decide) f0_108 (own_mlt l Z a0 hw [] b1_108 (3 : Int32) T108.heap n0 (Nat.le_trans Z0 K108.1) f2_108) 1 (by decide) (by decide) rfl (by decide) (by decide) (g := (mkF m 149 #[.val (.int p0), .val (.int (2 : Int32)), .val (.ref b1), .val (.int (1 : Int32)), .val (.ref b1_92), .val (.int (2 : Int32))] [(.ref b1_108), (.int (1 : Int32))])) rfl (by rw [hml']; rfl) (argsL := []) (rest := [(.int (1 : Int32))]) rfl (lenOf own_pd_I_154 rfl) rfl (by show 2 * 0 + _ ≤ _; exact Nat.le_of_eq rfl) (hb hby at_149) (fun r117 T117 L117 X117 hQ117 => ?_)
        obtain ⟨rfl, Nq117, eq117⟩ := hQ117
        have N117 := Fr.app N108 Nq117
        show own_End p e below P (T117.setTop (mkF m 152 #[.val (.int p0), .val (.int (2 : Int32)), .val (.ref b1), .val (.int (1 : Int32)), .val (.ref b1_92), .val (.int (2 : Int32))] [(.int (own_flt (3 : Int32))), (.int (1 : Int32))]))
        refine own_st (fun _ => XS.iloadN X117.here hx rfl (hb hby at_152) rfl) ?_
        show own_End p e below P (T117.setTop (mkF m 153 #[.val (.int p0), .val (.int (2 : Int32)), .val (.ref b1), .val (.int (1 : Int32)), .val (.ref b1_92), .val (.int (2 : Int32))] [(.int (2 : Int32)), (.int (own_flt (3 : Int32))), (.int (1 : Int32))]))
        refine own_st (fun _ => XS.iconst X117.here hx rfl (hb hby at_153)) ?_
        show own_End p e below P (T117.setTop (mkF m 154 #[.val (.int p0), .val (.int (2 : Int32)), .val (.ref b1), .val (.int (1 : Int32)), .val (.ref b1_92), .val (.int (2 : Int32))] [(.int (1 : Int32)), (.int (2 : Int32)), (.int (own_flt (3 : Int32))), (.int (1 : Int32))]))
        refine own_st (fun _ => XS.iadd X117.here hx rfl (hb hby at_154) rfl) ?_
        show own_End p e below P (T117.setTop (mkF m 155 #[.val (.int p0), .val (.int (2 : Int32)), .val (.ref b1), .val (.int (1 : Int32)), .val (.ref b1_92), .val (.int (2 : Int32))] [(.int (3 : Int32)), (.int (own_flt (3 : Int32))), (.int (1 : Int32))]))
        have hd118 : (own_flt (3 : Int32)) = (3 : Int32) := by decide
        refine own_st (fun _ => XS.icmpNo X117.here hx rfl (hb hby at_155) rfl (teq hd118).2) ?_
        show own_End p e below P (T117.setTop (mkF m 158 #[.val (.int p0), .val (.int (2 : Int32)), .val (.ref b1), .val (.int (1 : Int32)), .val (.ref b1_92), .val (.int (2 : Int32))] [(.int (1 : Int32))]))
        refine own_st (fun _ => XS.iconst X117.here hx rfl (hb hby at_158)) ?_
        show own_End p e below P (T117.setTop (mkF m 159 #[.val (.int p0), .val (.int (2 : Int32)), .val (.ref b1), .val (.int (1 : Int32)), .val (.ref b1_92), .val (.int (2 : Int32))] [(.int (1 : Int32)), (.int (1 : Int32))]))
        refine own_st (fun _ => XS.goto X117.here hx rfl (pc0 := 159) (pc' := 163) rfl (hb hby at_159) (by decide) (by decide)) ?_
        show own_End p e below P (T117.setTop (mkF m 163 #[.val (.int p0), .val (.int (2 : Int32)), .val (.ref b1), .val (.int (1 : Int32)), .val (.ref b1_92), .val (.int (2 : Int32))] [(.int (1 : Int32)), (.int (1 : Int32))]))
        refine own_st (fun _ => XS.iand X117.here hx rfl (hb hby at_163) rfl) ?_
        show own_End p e below P (T117.setTop (mkF m 164 #[.val (.int p0), .val (.int (2 : Int32)), .val (.ref b1), .val (.int (1 : Int32)), .val (.ref b1_92), .val (.int (2 : Int32))] [(.int (1 : Int32))]))
        refine own_st (fun _ => XS.istoreN X117.here hx rfl (hb hby at_164) rfl (l' := #[.val (.int p0), .val (.int (2 : Int32)), .val (.ref b1), .val (.int (1 : Int32)), .val (.ref b1_92), .val (.int (2 : Int32))]) rfl) ?_
        show own_End p e below P (T117.setTop (mkF m 165 #[.val (.int p0), .val (.int (2 : Int32)), .val (.ref b1), .val (.int (1 : Int32)), .val (.ref b1_92), .val (.int (2 : Int32))] []))
        refine own_st (fun _ => XS.iloadN X117.here hx rfl (hb hby at_165) rfl) ?_
        show own_End p e below P (T117.setTop (mkF m 166 #[.val (.int p0), .val (.int (2 : Int32)), .val (.ref b1), .val (.int (1 : Int32)), .val (.ref b1_92), .val (.int (2 : Int32))] [(.int (1 : Int32))]))
        have G119 := (Nat.le_trans (Nat.le_trans (Nat.le_trans (Nat.le_trans (Nat.le_trans hk12 Kq59.1) Kq90.1) Kq92.1) Kq103.1) Kq108.1)
        exact own_retNW X117 hS G119 eq117 hx hlk hP (t := .boolean) (by simp) hrt (hb hby at_166) (by decide) (by decide) ⟨rfl, N117⟩
      · refine own_st (fun _ => XS.icmpNo X90.here hx rfl (hb hby at_66) rfl (flt hc91).1) ?_
        show own_End p e below P (T90.setTop (mkF m 69 #[.val (.int p0), .val (.int k), .val (.ref b1), .val (.int (1 : Int32)), .unset, .unset] []))
        refine own_st (fun _ => XS.iloadN X90.here hx rfl (hb hby at_69) rfl) ?_
        show own_End p e below P (T90.setTop (mkF m 70 #[.val (.int p0), .val (.int k), .val (.ref b1), .val (.int (1 : Int32)), .unset, .unset] [(.int (1 : Int32))]))
        refine own_st (fun _ => XS.aloadN X90.here hx rfl (hb hby at_70) rfl rfl) ?_
        show own_End p e below P (T90.setTop (mkF m 71 #[.val (.int p0), .val (.int k), .val (.ref b1), .val (.int (1 : Int32)), .unset, .unset] [(.ref b1), (.int (1 : Int32))]))
        refine own_callV X90 hx hZ (y := (⟨"com/example/tallywire/tallywire/rules/GuidelineTree", "nextTally", "()I"⟩ : MethodName)) (z := (⟨"com/example/tallywire/tallywire/rules/GuidelineTree", "nextTally", "()I"⟩ : MethodName)) hown (hw _ (List.mem_of_getElem? (i := 200) rfl)) (hw _ (List.mem_of_getElem? (i := 201) rfl)) (notFace_of_selects (args := #[]) (mvT hZ (hw _ (List.mem_of_getElem? (i := 203) rfl)))) (hw _ (List.mem_of_getElem? (i := 203) rfl)) (hw _ (List.mem_of_getElem? (i := 202) rfl)) (hw _ (List.mem_of_getElem? (i := 2) rfl)) (hw _ (List.mem_of_getElem? (i := 204) rfl)) (by decide) f0_90 (own_mnt l Z a0 hw [] b1 b2_12 (0 : Int32) (2 : Int32) T90.heap n0 (Nat.le_trans Z0 K90.1) f0_90 f1_90 f2_90 f3_90 low_b1) 1 (by decide) (by decide) rfl (by decide) (by decide) (g := (mkF m 71 #[.val (.int p0), .val (.int k), .val (.ref b1), .val (.int (1 : Int32)), .unset, .unset] [(.ref b1), (.int (1 : Int32))])) rfl (by rw [hml']; rfl) (argsL := []) (rest := [(.int (1 : Int32))]) rfl (lenOf own_pd_I_154 rfl) rfl (by show 2 * 0 + _ ≤ _; exact Nat.le_of_eq rfl) (hb hby at_71) (fun r120 T120 L120 X120 hQ120 => ?_)
        obtain ⟨rfl, Nq120, Kq120, f0_120, f1_120, f2_120, f3_120⟩ := hQ120
        have N120 := Fr.app N90 Nq120
        have K120 := Keep.trans K90 Kq120 (allS (Or.inr sz_b1) all0)
        show own_End p e below P (T120.setTop (mkF m 74 #[.val (.int p0), .val (.int k), .val (.ref b1), .val (.int (1 : Int32)), .unset, .unset] [(.int (2 : Int32)), (.int (1 : Int32))]))
        refine own_st (fun _ => XS.iconst X120.here hx rfl (hb hby at_74)) ?_
        show own_End p e below P (T120.setTop (mkF m 75 #[.val (.int p0), .val (.int k), .val (.ref b1), .val (.int (1 : Int32)), .unset, .unset] [(.int (2 : Int32)), (.int (2 : Int32)), (.int (1 : Int32))]))
        refine own_st (fun _ => XS.icmpNo X120.here hx rfl (hb hby at_75) rfl (teq (by decide : (2 : Int32) = (2 : Int32))).2) ?_
        show own_End p e below P (T120.setTop (mkF m 78 #[.val (.int p0), .val (.int k), .val (.ref b1), .val (.int (1 : Int32)), .unset, .unset] [(.int (1 : Int32))]))
        refine own_st (fun _ => XS.iconst X120.here hx rfl (hb hby at_78)) ?_
        show own_End p e below P (T120.setTop (mkF m 79 #[.val (.int p0), .val (.int k), .val (.ref b1), .val (.int (1 : Int32)), .unset, .unset] [(.int (1 : Int32)), (.int (1 : Int32))]))
        refine own_st (fun _ => XS.goto X120.here hx rfl (pc0 := 79) (pc' := 83) rfl (hb hby at_79) (by decide) (by decide)) ?_
        show own_End p e below P (T120.setTop (mkF m 83 #[.val (.int p0), .val (.int k), .val (.ref b1), .val (.int (1 : Int32)), .unset, .unset] [(.int (1 : Int32)), (.int (1 : Int32))]))
        refine own_st (fun _ => XS.iand X120.here hx rfl (hb hby at_83) rfl) ?_
        show own_End p e below P (T120.setTop (mkF m 84 #[.val (.int p0), .val (.int k), .val (.ref b1), .val (.int (1 : Int32)), .unset, .unset] [(.int (1 : Int32))]))
        refine own_st (fun _ => XS.istoreN X120.here hx rfl (hb hby at_84) rfl (l' := #[.val (.int p0), .val (.int k), .val (.ref b1), .val (.int (1 : Int32)), .unset, .unset]) rfl) ?_
        show own_End p e below P (T120.setTop (mkF m 85 #[.val (.int p0), .val (.int k), .val (.ref b1), .val (.int (1 : Int32)), .unset, .unset] []))
        have hb0 := own_lo hc91
        have hcc := own_c
        have hkv : (3 : Int32) = k := own_eqk (by omega)
        subst hkv
        show own_End p e below P (T120.setTop (mkF m 85 #[.val (.int p0), .val (.int (3 : Int32)), .val (.ref b1), .val (.int (1 : Int32)), .unset, .unset] []))
        refine own_st (fun _ => XS.aloadN X120.here hx rfl (hb hby at_85) rfl rfl) ?_
        show own_End p e below P (T120.setTop (mkF m 86 #[.val (.int p0), .val (.int (3 : Int32)), .val (.ref b1), .val (.int (1 : Int32)), .unset, .unset] [(.ref b1)]))
        have G122 := ((((G26.keep Kq12).keep Kq59).keep Kq90).keep Kq120)
        have G123 := (own_StaKeep (own_StaKeep (own_StaKeep (own_StaKeep (own_StaKeep (((S_ImmutableCollections_EMPTY_SET.ext E1).ext E3).ext E7) Kq9 (allS (own_nst G10) all0)) Kq12 (allS (own_nst G13) all0)) Kq59 (allS (own_nst f0_12) all0)) Kq90 (allS (own_nst f0_59) all0)) Kq120 (allS (own_nst f0_90) all0))
        refine own_callV X120 hx hZ (y := (⟨"com/example/tallywire/tallywire/rules/GuidelineTree", "layer", "()Lcom/example/tallywire/tallywire/rules/Layer;"⟩ : MethodName)) (z := (⟨"com/example/tallywire/tallywire/rules/GuidelineTree", "layer", "()Lcom/example/tallywire/tallywire/rules/Layer;"⟩ : MethodName)) hown (hw _ (List.mem_of_getElem? (i := 148) rfl)) (hw _ (List.mem_of_getElem? (i := 149) rfl)) (notFace_of_selects (args := #[]) (mvT hZ (hw _ (List.mem_of_getElem? (i := 151) rfl)))) (hw _ (List.mem_of_getElem? (i := 151) rfl)) (hw _ (List.mem_of_getElem? (i := 150) rfl)) (hw _ (List.mem_of_getElem? (i := 2) rfl)) (hw _ (List.mem_of_getElem? (i := 152) rfl)) (by decide) f0_120 (own_mlayer l Z a0 hw [] b1 b2_12 (0 : Int32) (3 : Int32) s_ImmutableCollections_EMPTY_SET T120.heap n0 (Nat.le_trans Z0 K120.1) G122 f1_120 f2_120 f3_120 G123) 0 (by decide) (by decide) rfl (by decide) (by decide) (g := (mkF m 86 #[.val (.int p0), .val (.int (3 : Int32)), .val (.ref b1), .val (.int (1 : Int32)), .unset, .unset] [(.ref b1)])) rfl (by rw [hml']; rfl) (argsL := []) (rest := []) rfl (lenOf own_pd_Lcom_example_tallywire_tallywire_rules_Layer_572 rfl) rfl (by show 2 * 0 + _ ≤ _; exact Nat.le_of_eq rfl) (hb hby at_86) (fun r121 T121 L121 X121 hQ121 => ?_)
        obtain ⟨b1_121, rfl, Nq121, Kq121, szq_b1_121, low_b1_121, f0_121, f1_121, f2_121⟩ := hQ121
        have N121 := Fr.app N120 Nq121
        have ne124 : b1 ≠ b1_121 := Nat.ne_of_lt (Nat.lt_of_lt_of_le f0_120.lt szq_b1_121)
        have G125 := ((((f0_9.keep Kq12).keep Kq59).keep Kq90).keep Kq120)
        have ne126 : b3 ≠ b1_121 := Nat.ne_of_lt (Nat.lt_of_lt_of_le G125.lt szq_b1_121)
        have ne127 : s_ImmutableCollections_EMPTY_SET ≠ b1_121 := Nat.ne_of_lt (Nat.lt_of_lt_of_le G122.lt szq_b1_121)
        have sz_b1_121 := Nat.le_trans K120.1 szq_b1_121
        have K121 := Keep.trans K120 Kq121 all0
        show own_End p e below P (T121.setTop (mkF m 89 #[.val (.int p0), .val (.int (3 : Int32)), .val (.ref b1), .val (.int (1 : Int32)), .unset, .unset] [(.ref b1_121)]))
        refine own_st (fun _ => XS.astore X121.here hx rfl (hb hby at_89) rfl rfl (l' := #[.val (.int p0), .val (.int (3 : Int32)), .val (.ref b1), .val (.int (1 : Int32)), .val (.ref b1_121), .unset]) rfl) ?_
        show own_End p e below P (T121.setTop (mkF m 91 #[.val (.int p0), .val (.int (3 : Int32)), .val (.ref b1), .val (.int (1 : Int32)), .val (.ref b1_121), .unset] []))
        refine own_st (fun _ => XS.iloadN X121.here hx rfl (hb hby at_91) rfl) ?_
        show own_End p e below P (T121.setTop (mkF m 92 #[.val (.int p0), .val (.int (3 : Int32)), .val (.ref b1), .val (.int (1 : Int32)), .val (.ref b1_121), .unset] [(.int (1 : Int32))]))
        refine own_st (fun _ => XS.aload X121.here hx rfl (hb hby at_92) rfl rfl) ?_
        show own_End p e below P (T121.setTop (mkF m 94 #[.val (.int p0), .val (.int (3 : Int32)), .val (.ref b1), .val (.int (1 : Int32)), .val (.ref b1_121), .unset] [(.ref b1_121), (.int (1 : Int32))]))
        refine own_callV X121 hx hZ (y := (⟨"com/example/tallywire/tallywire/rules/Layer", "tallies", "()I"⟩ : MethodName)) (z := (⟨"com/example/tallywire/tallywire/rules/Layer", "tallies", "()I"⟩ : MethodName)) hown (hw _ (List.mem_of_getElem? (i := 190) rfl)) (hw _ (List.mem_of_getElem? (i := 191) rfl)) (notFace_of_selects (args := #[]) (mvT hZ (hw _ (List.mem_of_getElem? (i := 193) rfl)))) (hw _ (List.mem_of_getElem? (i := 193) rfl)) (hw _ (List.mem_of_getElem? (i := 192) rfl)) (hw _ (List.mem_of_getElem? (i := 155) rfl)) (hw _ (List.mem_of_getElem? (i := 194) rfl)) (by decide) f0_121 (own_mlt l Z a0 hw [] b1_121 (3 : Int32) T121.heap n0 (Nat.le_trans Z0 K121.1) f2_121) 1 (by decide) (by decide) rfl (by decide) (by decide) (g := (mkF m 94 #[.val (.int p0), .val (.int (3 : Int32)), .val (.ref b1), .val (.int (1 : Int32)), .val (.ref b1_121), .unset] [(.ref b1_121), (.int (1 : Int32))])) rfl (by rw [hml']; rfl) (argsL := []) (rest := [(.int (1 : Int32))]) rfl (lenOf own_pd_I_154 rfl) rfl (by show 2 * 0 + _ ≤ _; exact Nat.le_of_eq rfl) (hb hby at_94) (fun r128 T128 L128 X128 hQ128 => ?_)
        obtain ⟨rfl, Nq128, eq128⟩ := hQ128
        have N128 := Fr.app N121 Nq128
        show own_End p e below P (T128.setTop (mkF m 97 #[.val (.int p0), .val (.int (3 : Int32)), .val (.ref b1), .val (.int (1 : Int32)), .val (.ref b1_121), .unset] [(.int (own_flt (3 : Int32))), (.int (1 : Int32))]))
        refine own_st (fun _ => XS.iloadN X128.here hx rfl (hb hby at_97) rfl) ?_
        show own_End p e below P (T128.setTop (mkF m 98 #[.val (.int p0), .val (.int (3 : Int32)), .val (.ref b1), .val (.int (1 : Int32)), .val (.ref b1_121), .unset] [(.int (3 : Int32)), (.int (own_flt (3 : Int32))), (.int (1 : Int32))]))
        have hd129 : (own_flt (3 : Int32)) = (3 : Int32) := by decide
        refine own_st (fun _ => XS.icmpNo X128.here hx rfl (hb hby at_98) rfl (teq hd129).2) ?_
        show own_End p e below P (T128.setTop (mkF m 101 #[.val (.int p0), .val (.int (3 : Int32)), .val (.ref b1), .val (.int (1 : Int32)), .val (.ref b1_121), .unset] [(.int (1 : Int32))]))
        refine own_st (fun _ => XS.iconst X128.here hx rfl (hb hby at_101)) ?_
        show own_End p e below P (T128.setTop (mkF m 102 #[.val (.int p0), .val (.int (3 : Int32)), .val (.ref b1), .val (.int (1 : Int32)), .val (.ref b1_121), .unset] [(.int (1 : Int32)), (.int (1 : Int32))]))
        refine own_st (fun _ => XS.goto X128.here hx rfl (pc0 := 102) (pc' := 106) rfl (hb hby at_102) (by decide) (by decide)) ?_
        show own_End p e below P (T128.setTop (mkF m 106 #[.val (.int p0), .val (.int (3 : Int32)), .val (.ref b1), .val (.int (1 : Int32)), .val (.ref b1_121), .unset] [(.int (1 : Int32)), (.int (1 : Int32))]))
        refine own_st (fun _ => XS.iand X128.here hx rfl (hb hby at_106) rfl) ?_
        show own_End p e below P (T128.setTop (mkF m 107 #[.val (.int p0), .val (.int (3 : Int32)), .val (.ref b1), .val (.int (1 : Int32)), .val (.ref b1_121), .unset] [(.int (1 : Int32))]))
        refine own_st (fun _ => XS.istoreN X128.here hx rfl (hb hby at_107) rfl (l' := #[.val (.int p0), .val (.int (3 : Int32)), .val (.ref b1), .val (.int (1 : Int32)), .val (.ref b1_121), .unset]) rfl) ?_
        show own_End p e below P (T128.setTop (mkF m 108 #[.val (.int p0), .val (.int (3 : Int32)), .val (.ref b1), .val (.int (1 : Int32)), .val (.ref b1_121), .unset] []))
        refine own_st (fun _ => XS.iloadN X128.here hx rfl (hb hby at_108) rfl) ?_
        show own_End p e below P (T128.setTop (mkF m 109 #[.val (.int p0), .val (.int (3 : Int32)), .val (.ref b1), .val (.int (1 : Int32)), .val (.ref b1_121), .unset] [(.int (1 : Int32))]))
        refine own_st (fun _ => XS.aload X128.here hx rfl (hb hby at_109) rfl rfl) ?_
        show own_End p e below P (T128.setTop (mkF m 111 #[.val (.int p0), .val (.int (3 : Int32)), .val (.ref b1), .val (.int (1 : Int32)), .val (.ref b1_121), .unset] [(.ref b1_121), (.int (1 : Int32))]))
        refine own_callV X128 hx hZ (y := (⟨"com/example/tallywire/tallywire/rules/Layer", "facts", "()I"⟩ : MethodName)) (z := (⟨"com/example/tallywire/tallywire/rules/Layer", "facts", "()I"⟩ : MethodName)) hown (hw _ (List.mem_of_getElem? (i := 195) rfl)) (hw _ (List.mem_of_getElem? (i := 196) rfl)) (notFace_of_selects (args := #[]) (mvT hZ (hw _ (List.mem_of_getElem? (i := 198) rfl)))) (hw _ (List.mem_of_getElem? (i := 198) rfl)) (hw _ (List.mem_of_getElem? (i := 197) rfl)) (hw _ (List.mem_of_getElem? (i := 155) rfl)) (hw _ (List.mem_of_getElem? (i := 199) rfl)) (by decide) f0_121 (own_mlf l Z a0 hw [] b1_121 (0 : Int32) T121.heap n0 (Nat.le_trans Z0 K121.1) f1_121) 1 (by decide) (by decide) eq128 (by decide) (by decide) (g := (mkF m 111 #[.val (.int p0), .val (.int (3 : Int32)), .val (.ref b1), .val (.int (1 : Int32)), .val (.ref b1_121), .unset] [(.ref b1_121), (.int (1 : Int32))])) rfl (by rw [hml']; rfl) (argsL := []) (rest := [(.int (1 : Int32))]) rfl (lenOf own_pd_I_154 rfl) rfl (by show 2 * 0 + _ ≤ _; exact Nat.le_of_eq rfl) (hb hby at_111) (fun r130 T130 L130 X130 hQ130 => ?_)
        obtain ⟨rfl, Nq130, eq130⟩ := hQ130
        have N130 := Fr.app N128 Nq130
        show own_End p e below P (T130.setTop (mkF m 114 #[.val (.int p0), .val (.int (3 : Int32)), .val (.ref b1), .val (.int (1 : Int32)), .val (.ref b1_121), .unset] [(.int (own_flf (0 : Int32))), (.int (1 : Int32))]))
        have hd131 : (own_flf (0 : Int32)) = (0 : Int32) := by decide
        refine own_st (fun _ => XS.ifNo X130.here hx rfl (hb hby at_114) rfl ((if0 _ _).trans (teq hd131).2)) ?_
        show own_End p e below P (T130.setTop (mkF m 117 #[.val (.int p0), .val (.int (3 : Int32)), .val (.ref b1), .val (.int (1 : Int32)), .val (.ref b1_121), .unset] [(.int (1 : Int32))]))
        refine own_st (fun _ => XS.iconst X130.here hx rfl (hb hby at_117)) ?_
        show own_End p e below P (T130.setTop (mkF m 118 #[.val (.int p0), .val (.int (3 : Int32)), .val (.ref b1), .val (.int (1 : Int32)), .val (.ref b1_121), .unset] [(.int (1 : Int32)), (.int (1 : Int32))]))
        refine own_st (fun _ => XS.goto X130.here hx rfl (pc0 := 118) (pc' := 122) rfl (hb hby at_118) (by decide) (by decide)) ?_
        show own_End p e below P (T130.setTop (mkF m 122 #[.val (.int p0), .val (.int (3 : Int32)), .val (.ref b1), .val (.int (1 : Int32)), .val (.ref b1_121), .unset] [(.int (1 : Int32)), (.int (1 : Int32))]))
        refine own_st (fun _ => XS.iand X130.here hx rfl (hb hby at_122) rfl) ?_
        show own_End p e below P (T130.setTop (mkF m 123 #[.val (.int p0), .val (.int (3 : Int32)), .val (.ref b1), .val (.int (1 : Int32)), .val (.ref b1_121), .unset] [(.int (1 : Int32))]))
        refine own_st (fun _ => XS.istoreN X130.here hx rfl (hb hby at_123) rfl (l' := #[.val (.int p0), .val (.int (3 : Int32)), .val (.ref b1), .val (.int (1 : Int32)), .val (.ref b1_121), .unset]) rfl) ?_
        show own_End p e below P (T130.setTop (mkF m 124 #[.val (.int p0), .val (.int (3 : Int32)), .val (.ref b1), .val (.int (1 : Int32)), .val (.ref b1_121), .unset] []))
        refine own_st (fun _ => XS.aloadN X130.here hx rfl (hb hby at_124) rfl rfl) ?_
        show own_End p e below P (T130.setTop (mkF m 125 #[.val (.int p0), .val (.int (3 : Int32)), .val (.ref b1), .val (.int (1 : Int32)), .val (.ref b1_121), .unset] [(.ref b1)]))
        have G133 := (f0_120.keep Kq121)
        have G134 := (f1_120.keep Kq121 nin0)
        have G135 := (f2_120.keep Kq121 nin0)
        have G136 := (f3_120.keep Kq121 nin0)
        refine own_callV X130 hx hZ (y := (⟨"com/example/tallywire/tallywire/rules/GuidelineTree", "nextTally", "()I"⟩ : MethodName)) (z := (⟨"com/example/tallywire/tallywire/rules/GuidelineTree", "nextTally", "()I"⟩ : MethodName)) hown (hw _ (List.mem_of_getElem? (i := 200) rfl)) (hw _ (List.mem_of_getElem? (i := 201) rfl)) (notFace_of_selects (args := #[]) (mvT hZ (hw _ (List.mem_of_getElem? (i := 203) rfl)))) (hw _ (List.mem_of_getElem? (i := 203) rfl)) (hw _ (List.mem_of_getElem? (i := 202) rfl)) (hw _ (List.mem_of_getElem? (i := 2) rfl)) (hw _ (List.mem_of_getElem? (i := 204) rfl)) (by decide) G133 (own_mnt l Z a0 hw [] b1 b2_12 (0 : Int32) (3 : Int32) T121.heap n0 (Nat.le_trans Z0 K121.1) G133 G134 G135 G136 low_b1) 0 (by decide) (by decide) eq130 (by decide) (by decide) (g := (mkF m 125 #[.val (.int p0), .val (.int (3 : Int32)), .val (.ref b1), .val (.int (1 : Int32)), .val (.ref b1_121), .unset] [(.ref b1)])) rfl (by rw [hml']; rfl) (argsL := []) (rest := []) rfl (lenOf own_pd_I_154 rfl) rfl (by show 2 * 0 + _ ≤ _; exact Nat.le_of_eq rfl) (hb hby at_125) (fun r132 T132 L132 X132 hQ132 => ?_)
        obtain ⟨rfl, Nq132, Kq132, f0_132, f1_132, f2_132, f3_132⟩ := hQ132
        have N132 := Fr.app N130 Nq132
        have K132 := Keep.trans K121 Kq132 (allS (Or.inr sz_b1) all0)
        show own_End p e below P (T132.setTop (mkF m 128 #[.val (.int p0), .val (.int (3 : Int32)), .val (.ref b1), .val (.int (1 : Int32)), .val (.ref b1_121), .unset] [(.int (3 : Int32))]))
        refine own_st (fun _ => XS.istore X132.here hx rfl (hb hby at_128) rfl (l' := #[.val (.int p0), .val (.int (3 : Int32)), .val (.ref b1), .val (.int (1 : Int32)), .val (.ref b1_121), .val (.int (3 : Int32))]) rfl) ?_
        show own_End p e below P (T132.setTop (mkF m 130 #[.val (.int p0), .val (.int (3 : Int32)), .val (.ref b1), .val (.int (1 : Int32)), .val (.ref b1_121), .val (.int (3 : Int32))] []))
        refine own_st (fun _ => XS.iloadN X132.here hx rfl (hb hby at_130) rfl) ?_
        show own_End p e below P (T132.setTop (mkF m 131 #[.val (.int p0), .val (.int (3 : Int32)), .val (.ref b1), .val (.int (1 : Int32)), .val (.ref b1_121), .val (.int (3 : Int32))] [(.int (1 : Int32))]))
        refine own_st (fun _ => XS.iload X132.here hx rfl (hb hby at_131) rfl) ?_
        show own_End p e below P (T132.setTop (mkF m 133 #[.val (.int p0), .val (.int (3 : Int32)), .val (.ref b1), .val (.int (1 : Int32)), .val (.ref b1_121), .val (.int (3 : Int32))] [(.int (3 : Int32)), (.int (1 : Int32))]))
        refine own_st (fun _ => XS.iloadN X132.here hx rfl (hb hby at_133) rfl) ?_
        show own_End p e below P (T132.setTop (mkF m 134 #[.val (.int p0), .val (.int (3 : Int32)), .val (.ref b1), .val (.int (1 : Int32)), .val (.ref b1_121), .val (.int (3 : Int32))] [(.int (3 : Int32)), (.int (3 : Int32)), (.int (1 : Int32))]))
        refine own_st (fun _ => XS.icmpNo X132.here hx rfl (hb hby at_134) rfl (teq (by decide : (3 : Int32) = (3 : Int32))).2) ?_
        show own_End p e below P (T132.setTop (mkF m 137 #[.val (.int p0), .val (.int (3 : Int32)), .val (.ref b1), .val (.int (1 : Int32)), .val (.ref b1_121), .val (.int (3 : Int32))] [(.int (1 : Int32))]))
        refine own_st (fun _ => XS.iconst X132.here hx rfl (hb hby at_137)) ?_
        show own_End p e below P (T132.setTop (mkF m 138 #[.val (.int p0), .val (.int (3 : Int32)), .val (.ref b1), .val (.int (1 : Int32)), .val (.ref b1_121), .val (.int (3 : Int32))] [(.int (1 : Int32)), (.int (1 : Int32))]))
        refine own_st (fun _ => XS.goto X132.here hx rfl (pc0 := 138) (pc' := 142) rfl (hb hby at_138) (by decide) (by decide)) ?_
        show own_End p e below P (T132.setTop (mkF m 142 #[.val (.int p0), .val (.int (3 : Int32)), .val (.ref b1), .val (.int (1 : Int32)), .val (.ref b1_121), .val (.int (3 : Int32))] [(.int (1 : Int32)), (.int (1 : Int32))]))
        refine own_st (fun _ => XS.iand X132.here hx rfl (hb hby at_142) rfl) ?_
        show own_End p e below P (T132.setTop (mkF m 143 #[.val (.int p0), .val (.int (3 : Int32)), .val (.ref b1), .val (.int (1 : Int32)), .val (.ref b1_121), .val (.int (3 : Int32))] [(.int (1 : Int32))]))
        refine own_st (fun _ => XS.istoreN X132.here hx rfl (hb hby at_143) rfl (l' := #[.val (.int p0), .val (.int (3 : Int32)), .val (.ref b1), .val (.int (1 : Int32)), .val (.ref b1_121), .val (.int (3 : Int32))]) rfl) ?_
        show own_End p e below P (T132.setTop (mkF m 144 #[.val (.int p0), .val (.int (3 : Int32)), .val (.ref b1), .val (.int (1 : Int32)), .val (.ref b1_121), .val (.int (3 : Int32))] []))
        refine own_st (fun _ => XS.iloadN X132.here hx rfl (hb hby at_144) rfl) ?_
        show own_End p e below P (T132.setTop (mkF m 145 #[.val (.int p0), .val (.int (3 : Int32)), .val (.ref b1), .val (.int (1 : Int32)), .val (.ref b1_121), .val (.int (3 : Int32))] [(.int (1 : Int32))]))
        refine own_st (fun _ => XS.aloadN X132.here hx rfl (hb hby at_145) rfl rfl) ?_
        show own_End p e below P (T132.setTop (mkF m 146 #[.val (.int p0), .val (.int (3 : Int32)), .val (.ref b1), .val (.int (1 : Int32)), .val (.ref b1_121), .val (.int (3 : Int32))] [(.ref b1), (.int (1 : Int32))]))
        have G138 := ((G122.keep Kq121).keep Kq132)
        have G139 := (own_StaKeep (own_StaKeep G123 Kq121 all0) Kq132 (allS (own_nst G133) all0))
        refine own_callV X132 hx hZ (y := (⟨"com/example/tallywire/tallywire/rules/GuidelineTree", "layer", "()Lcom/example/tallywire/tallywire/rules/Layer;"⟩ : MethodName)) (z := (⟨"com/example/tallywire/tallywire/rules/GuidelineTree", "layer", "()Lcom/example/tallywire/tallywire/rules/Layer;"⟩ : MethodName)) hown (hw _ (List.mem_of_getElem? (i := 148) rfl)) (hw _ (List.mem_of_getElem? (i := 149) rfl)) (notFace_of_selects (args := #[]) (mvT hZ (hw _ (List.mem_of_getElem? (i := 151) rfl)))) (hw _ (List.mem_of_getElem? (i := 151) rfl)) (hw _ (List.mem_of_getElem? (i := 150) rfl)) (hw _ (List.mem_of_getElem? (i := 2) rfl)) (hw _ (List.mem_of_getElem? (i := 152) rfl)) (by decide) f0_132 (own_mlayer l Z a0 hw [] b1 b2_12 (0 : Int32) (4 : Int32) s_ImmutableCollections_EMPTY_SET T132.heap n0 (Nat.le_trans Z0 K132.1) G138 f1_132 f2_132 f3_132 G139) 1 (by decide) (by decide) rfl (by decide) (by decide) (g := (mkF m 146 #[.val (.int p0), .val (.int (3 : Int32)), .val (.ref b1), .val (.int (1 : Int32)), .val (.ref b1_121), .val (.int (3 : Int32))] [(.ref b1), (.int (1 : Int32))])) rfl (by rw [hml']; rfl) (argsL := []) (rest := [(.int (1 : Int32))]) rfl (lenOf own_pd_Lcom_example_tallywire_tallywire_rules_Layer_572 rfl) rfl (by show 2 * 0 + _ ≤ _; exact Nat.le_of_eq rfl) (hb hby at_146) (fun r137 T137 L137 X137 hQ137 => ?_)
        obtain ⟨b1_137, rfl, Nq137, Kq137, szq_b1_137, low_b1_137, f0_137, f1_137, f2_137⟩ := hQ137
        have N137 := Fr.app N132 Nq137
        have ne140 : b1 ≠ b1_137 := Nat.ne_of_lt (Nat.lt_of_lt_of_le f0_132.lt szq_b1_137)
        have G141 := (f0_121.keep Kq132)
        have ne142 : b1_121 ≠ b1_137 := Nat.ne_of_lt (Nat.lt_of_lt_of_le G141.lt szq_b1_137)
        have G143 := ((G125.keep Kq121).keep Kq132)
        have ne144 : b3 ≠ b1_137 := Nat.ne_of_lt (Nat.lt_of_lt_of_le G143.lt szq_b1_137)
        have ne145 : s_ImmutableCollections_EMPTY_SET ≠ b1_137 := Nat.ne_of_lt (Nat.lt_of_lt_of_le G138.lt szq_b1_137)
        have sz_b1_137 := Nat.le_trans K132.1 szq_b1_137
        have K137 := Keep.trans K132 Kq137 all0
        show own_End p e below P (T137.setTop (mkF m 149 #[.val (.int p0), .val (.int (3 : Int32)), .val (.ref b1), .val (.int (1 : Int32)), .val (.ref b1_121), .val (.int (3 : Int32))] [(.ref b1_137), (.int (1 : Int32))]))
        refine own_callV X137 hx hZ (y := (⟨"com/example/tallywire/tallywire/rules/Layer", "tallies", "()I"⟩ : MethodName)) (z := (⟨"com/example/tallywire/tallywire/rules/Layer", "tallies", "()I"⟩ : MethodName)) hown (hw _ (List.mem_of_getElem? (i := 190) rfl)) (hw _ (List.mem_of_getElem? (i := 191) rfl)) (notFace_of_selects (args := #[]) (mvT hZ (hw _ (List.mem_of_getElem? (i := 193) rfl)))) (hw _ (List.mem_of_getElem? (i := 193) rfl)) (hw _ (List.mem_of_getElem? (i := 192) rfl)) (hw _ (List.mem_of_getElem? (i := 155) rfl)) (hw _ (List.mem_of_getElem? (i := 194) rfl)) (by decide) f0_137 (own_mlt l Z a0 hw [] b1_137 (4 : Int32) T137.heap n0 (Nat.le_trans Z0 K137.1) f2_137) 1 (by decide) (by decide) rfl (by decide) (by decide) (g := (mkF m 149 #[.val (.int p0), .val (.int (3 : Int32)), .val (.ref b1), .val (.int (1 : Int32)), .val (.ref b1_121), .val (.int (3 : Int32))] [(.ref b1_137), (.int (1 : Int32))])) rfl (by rw [hml']; rfl) (argsL := []) (rest := [(.int (1 : Int32))]) rfl (lenOf own_pd_I_154 rfl) rfl (by show 2 * 0 + _ ≤ _; exact Nat.le_of_eq rfl) (hb hby at_149) (fun r146 T146 L146 X146 hQ146 => ?_)
        obtain ⟨rfl, Nq146, eq146⟩ := hQ146
        have N146 := Fr.app N137 Nq146
        show own_End p e below P (T146.setTop (mkF m 152 #[.val (.int p0), .val (.int (3 : Int32)), .val (.ref b1), .val (.int (1 : Int32)), .val (.ref b1_121), .val (.int (3 : Int32))] [(.int (own_flt (4 : Int32))), (.int (1 : Int32))]))
        refine own_st (fun _ => XS.iloadN X146.here hx rfl (hb hby at_152) rfl) ?_
        show own_End p e below P (T146.setTop (mkF m 153 #[.val (.int p0), .val (.int (3 : Int32)), .val (.ref b1), .val (.int (1 : Int32)), .val (.ref b1_121), .val (.int (3 : Int32))] [(.int (3 : Int32)), (.int (own_flt (4 : Int32))), (.int (1 : Int32))]))
        refine own_st (fun _ => XS.iconst X146.here hx rfl (hb hby at_153)) ?_
        show own_End p e below P (T146.setTop (mkF m 154 #[.val (.int p0), .val (.int (3 : Int32)), .val (.ref b1), .val (.int (1 : Int32)), .val (.ref b1_121), .val (.int (3 : Int32))] [(.int (1 : Int32)), (.int (3 : Int32)), (.int (own_flt (4 : Int32))), (.int (1 : Int32))]))
        refine own_st (fun _ => XS.iadd X146.here hx rfl (hb hby at_154) rfl) ?_
        show own_End p e below P (T146.setTop (mkF m 155 #[.val (.int p0), .val (.int (3 : Int32)), .val (.ref b1), .val (.int (1 : Int32)), .val (.ref b1_121), .val (.int (3 : Int32))] [(.int (4 : Int32)), (.int (own_flt (4 : Int32))), (.int (1 : Int32))]))
        have hd147 : (own_flt (4 : Int32)) = (4 : Int32) := by decide
        refine own_st (fun _ => XS.icmpNo X146.here hx rfl (hb hby at_155) rfl (teq hd147).2) ?_
        show own_End p e below P (T146.setTop (mkF m 158 #[.val (.int p0), .val (.int (3 : Int32)), .val (.ref b1), .val (.int (1 : Int32)), .val (.ref b1_121), .val (.int (3 : Int32))] [(.int (1 : Int32))]))
        refine own_st (fun _ => XS.iconst X146.here hx rfl (hb hby at_158)) ?_
        show own_End p e below P (T146.setTop (mkF m 159 #[.val (.int p0), .val (.int (3 : Int32)), .val (.ref b1), .val (.int (1 : Int32)), .val (.ref b1_121), .val (.int (3 : Int32))] [(.int (1 : Int32)), (.int (1 : Int32))]))
        refine own_st (fun _ => XS.goto X146.here hx rfl (pc0 := 159) (pc' := 163) rfl (hb hby at_159) (by decide) (by decide)) ?_
        show own_End p e below P (T146.setTop (mkF m 163 #[.val (.int p0), .val (.int (3 : Int32)), .val (.ref b1), .val (.int (1 : Int32)), .val (.ref b1_121), .val (.int (3 : Int32))] [(.int (1 : Int32)), (.int (1 : Int32))]))
        refine own_st (fun _ => XS.iand X146.here hx rfl (hb hby at_163) rfl) ?_
        show own_End p e below P (T146.setTop (mkF m 164 #[.val (.int p0), .val (.int (3 : Int32)), .val (.ref b1), .val (.int (1 : Int32)), .val (.ref b1_121), .val (.int (3 : Int32))] [(.int (1 : Int32))]))
        refine own_st (fun _ => XS.istoreN X146.here hx rfl (hb hby at_164) rfl (l' := #[.val (.int p0), .val (.int (3 : Int32)), .val (.ref b1), .val (.int (1 : Int32)), .val (.ref b1_121), .val (.int (3 : Int32))]) rfl) ?_
        show own_End p e below P (T146.setTop (mkF m 165 #[.val (.int p0), .val (.int (3 : Int32)), .val (.ref b1), .val (.int (1 : Int32)), .val (.ref b1_121), .val (.int (3 : Int32))] []))
        refine own_st (fun _ => XS.iloadN X146.here hx rfl (hb hby at_165) rfl) ?_
        show own_End p e below P (T146.setTop (mkF m 166 #[.val (.int p0), .val (.int (3 : Int32)), .val (.ref b1), .val (.int (1 : Int32)), .val (.ref b1_121), .val (.int (3 : Int32))] [(.int (1 : Int32))]))
        have G148 := (Nat.le_trans (Nat.le_trans (Nat.le_trans (Nat.le_trans (Nat.le_trans (Nat.le_trans hk12 Kq59.1) Kq90.1) Kq120.1) Kq121.1) Kq132.1) Kq137.1)
        exact own_retNW X146 hS G148 eq146 hx hlk hP (t := .boolean) (by simp) hrt (hb hby at_166) (by decide) (by decide) ⟨rfl, N146⟩
set_option maxRecDepth 65536 in
set_option maxHeartbeats 40000000 in
theorem comes_1 {Post : Tables → Env → Array Value → State → Outcome → State → Prop} (hpost : ∀ tb e args s v u, (limb_1_1.after args s (.returned v) u = true ∧ limb_1_2.after args s (.returned v) u = true ∧ True) → ReturnedEndW s (.returned v) u (Jvm.fieldLocs frame_1_writes args s ++ Jvm.arrayLocs frame_1_arrays args s ++ Jvm.staticLocs frame_1_statics s) 64 2624 → Post tb e args s (.returned v) u) :
    ArmFor flags0 classFile x code maxLocals ret World_1 tables_1 room_1 Calls_1 rest_1 Pre_1 Post := by
  intro l hfl _ _ p e ha hc hk s m args below hf hA hF happ hP
  obtain ⟨hcalls, hrest, hpre⟩ := hP
  obtain ⟨-, -, -, hnamed, -, -, -, hat⟩ := (Spec.applies_iff hf).mp happ
  obtain ⟨hg, hn⟩ := and_e (Cond.before_iff.mp (show (Jvm.Cond.and given_1 narrow_1).before args s = true from hpre))
  obtain ⟨k1, l1⟩ := and_e hg
  obtain ⟨w0, rfl⟩ : ∃ w0 : Value, args = #[w0] := by
    have hs : args.size = 1 := by simpa [Cond.value, given_1] using k1
    obtain ⟨L⟩ := args
    match L, hs with
    | [w0], _ => exact ⟨w0, rfl⟩
  have hw := fun d (hd : d ∈ tables_1) => atoms_spec (ws := Jvm.Cond.code x code maxLocals ret :: tables_1) hat d (List.mem_cons_of_mem _ hd)
  have hfit : Fit s := fun {y c} hc i hi => by
    obtain ⟨ha, rfl⟩ := Array.getElem?_eq_some_iff.mp hc
    have q := List.all_eq_true.mp ((Array.all_eq_true_iff_forall_mem.mp hF) _ (Array.getElem_mem ha)) i (List.mem_range.mpr hi)
    simpa [Array.getElem?_eq_getElem hi] using q
  obtain ⟨hsets, hown0⟩ := atoms_of _ (rest_1_c_eq ▸ (show rest_1_c.before _ s = true from hrest))
  have hr0 := Cond.before_iff.mp hown0
  obtain ⟨i0, ei0⟩ := is_v l1
  obtain rfl : w0 = (.int i0) := Option.some.inj ei0
  obtain ⟨bD, ebD⟩ := exa_v (Cond.before_iff.mp (hsets _ (List.mem_of_getElem? (i := 7) rfl)))
  have SD : Sta s s.heap "java/util/ArrayList" "DEFAULTCAPACITY_EMPTY_ELEMENTDATA" "[Ljava/lang/Object;" (.ref bD) := Sta.start ebD (Or.inr ⟨(hw _ (List.mem_of_getElem? (i := 64) rfl)), (hsets _ (List.mem_of_getElem? (i := 2) rfl))⟩)
  obtain ⟨bS, ebS⟩ := exa_v (Cond.before_iff.mp (hsets _ (List.mem_of_getElem? (i := 11) rfl)))
  have SS : Sta s s.heap "java/util/ImmutableCollections" "EMPTY_SET" "Ljava/util/ImmutableCollections$SetN;" (.ref bS) := Sta.start ebS (Or.inl (hsets _ (List.mem_of_getElem? (i := 10) rfl)))
  have E1 : Exa s s.heap bS "java/util/ImmutableCollections$SetN" := Exa.start ebS (Cond.before_iff.mp (hsets _ (List.mem_of_getElem? (i := 11) rfl)))
  obtain ⟨n, o, h1, h2, h3, _, L, rfl, ⟨rfl, N⟩, hq⟩ := own_m0 l s _ hw tables_1 i0 bD bS s.heap s.heap.size (Nat.le_refl _) E1 SD SS p e ha hc hk s m _ below hf ((Spec.applies_iff_loose hf).mp happ).1 ⟨rfl, State.Warmed39.refl s, rfl⟩ trivial
  refine ⟨n, _, h1, h2, h3, hpost _ _ _ _ _ _ ⟨Cond.after_iff.mpr rfl, Cond.after_iff.mpr (eq_i res_at (Term.int_eval (1)) rfl), trivial⟩ ⟨hq.1, hq.2.1, hq.2.2.1, (hq.2.2.2.sift fun y hy => Or.inr (N y hy)).mono (by decide) (by decide)⟩⟩
theorem main_1_1 : Claimed_1_1 := comes_1 fun _ _ _ _ _ _ h hF => ⟨h.1, hF⟩
theorem main_1_2 : Claimed_1_2 := comes_1 fun _ _ _ _ _ _ h hF => ⟨h.2.1, hF⟩
end Jvm.Pilot.@@N@@
namespace Jvm.Pilot.@@N@@
open Jvm Jvm.ClassFile Sem Op Lib Jvm.Free Jvm.Stand Jvm.Pilot.@@N@@.Jvm.D
/-! MADE BY PROGRAM (witnessworld.py) out of the Statement's table words and the real class files: 38 classes; the members and pool entries that the words name. The judged class is class 1, her method 1. -/
namespace start1
open Jvm.ClassFile
def u (s : String) : CpInfo := .utf8 (stringToUtf16 s)
/-- a pool by its gaps: so many unusable entries, then the entry; so many at the end -/
def gap : Nat → List CpInfo → List CpInfo
  | 0, r => r
  | n + 1, r => .unusable :: gap n r
def poolList (es : List (Nat × CpInfo)) (last : Nat) : List CpInfo := es.foldr (fun e r => gap e.1 (e.2 :: r)) (gap last [])
def pool (es : List (Nat × CpInfo)) (last : Nat) : Array CpInfo := ⟨poolList es last⟩
def fileOf (pool : Array CpInfo) (this : Nat) (attrs : Array Attribute := #[]) (ms : Array MethodInfo := #[]) (fl : Nat := 33) (sup : Nat := 0) (ifs : Array Nat := #[]) (fds : Array FieldInfo := #[]) : ClassFile where
  minorVersion := 0
  majorVersion := 65
  constantPool := pool
  accessFlags := fl
  thisClass := this
  superClass := sup
  interfaces := ifs
  fields := fds
  methods := ms
  attributes := attrs
def plain (name : String) (sup : Option ClassId) : Class where
  name := name
  kind := .ordinary
  loader := none
  accessFlags := 33
  super := sup
  interfaces := #[]
  cf := none
  fields := #[]
  methods := #[]
  instanceTypes := #[]
  staticTypes := #[]
  resolved := #[]
  callSites := []
  init := .initialized
  statics := none
  mirror := none

def pool0 : Array CpInfo := pool [(5, u "<init>"), (0, u "()V"), (1, .class_ 10), (1, u "java/lang/Object")] 113

def k0c0 : Code := { maxStack := 0, maxLocals := 1, code := object_method_1_code, exceptionTable := #[], attributes := #[] }
def k0m0 : Method := { name := "<init>", desc := "()V", sig := { parameters := [], returnType := none }, accessFlags := 1, code := some k0c0 }
/-- java/lang/Object -/
def k0 : Class := { plain "java/lang/Object" none with
  accessFlags := 33
  interfaces := #[]
  cf := some (fileOf pool0 8 #[] #[{ accessFlags := 1, nameIndex := 5, descriptorIndex := 6, attributes := #[] }] 33 0 #[] #[])
  fields := #[]
  methods := #[k0m0]
  instanceTypes := #[]
  staticTypes := #[]
  resolved := Array.replicate 124 none
  statics := none }

def pool1 : Array CpInfo := pool [(2, .class_ 4), (1, u "java/lang/Object"), (0, u "<init>"), (0, u "()V"), (0, .class_ 8), (0, u "com/example/tallywire/tallywire/rules/GuidelineTree"), (0, .class_ 10), (0, u "com/example/tallywire/tallywire/rules/LineReader"), (0, .string 12), (0, u "g"), (0, .methodref 9 14), (0, .nameAndType 5 15), (0, u "(Ljava/lang/String;)V"), (0, .methodref 7 17), (0, .nameAndType 5 18), (0, u "(Lcom/example/tallywire/tallywire/rules/LineReader;)V"), (0, .methodref 7 20), (0, .nameAndType 21 22), (0, u "nextTally"), (0, u "()I"), (0, .methodref 7 24), (0, .nameAndType 25 26), (0, u "layer"), (0, u "()Lcom/example/tallywire/tallywire/rules/Layer;"), (0, .methodref 28 29), (0, .class_ 30), (0, .nameAndType 31 22), (0, u "com/example/tallywire/tallywire/rules/Layer"), (0, u "tallies"), (0, .methodref 28 33), (0, .nameAndType 34 22), (0, u "facts"), (0, .class_ 36), (0, u "com/example/tallywire/tallywire/rules/GuidelineTreeNextTallyPinLaw"), (2, u "law"), (0, u "(I)Z")] 3

def k1m0 : Method := { name := "<init>", desc := "()V", sig := { parameters := [], returnType := none }, accessFlags := 2, code := none }
def k1c1 : Code := { maxStack := 5, maxLocals := 6, code := code, exceptionTable := #[], attributes := #[] }
def k1m1 : Method := { name := "law", desc := "(I)Z", sig := { parameters := [.int], returnType := some .boolean }, accessFlags := 9, code := some k1c1 }
/-- com/example/tallywire/tallywire/rules/GuidelineTreeNextTallyPinLaw -/
def k1 : Class := { plain "com/example/tallywire/tallywire/rules/GuidelineTreeNextTallyPinLaw" (some 0) with
  accessFlags := 49
  interfaces := #[]
  cf := some (fileOf pool1 35 #[] #[{ accessFlags := 2, nameIndex := 5, descriptorIndex := 6, attributes := #[] }, { accessFlags := 9, nameIndex := 39, descriptorIndex := 40, attributes := #[] }] 49 2 #[] #[])
  fields := #[]
  methods := #[k1m0, k1m1]
  instanceTypes := #[]
  staticTypes := #[]
  resolved := Array.replicate 44 none
  statics := none }

def pool2 : Array CpInfo := pool [(1, .methodref 2 3), (0, .class_ 4), (0, .nameAndType 5 6), (0, u "java/lang/Object"), (0, u "<init>"), (0, u "()V"), (0, .class_ 8), (0, u "com/example/tallywire/tallywire/rules/PathNode"), (0, .string 10), (0, u ""), (0, .methodref 7 12), (0, .nameAndType 5 13), (0, u "(Ljava/lang/String;)V"), (0, .fieldref 15 16), (0, .class_ 17), (0, .nameAndType 18 19), (0, u "com/example/tallywire/tallywire/rules/GuidelineTree"), (0, u "root"), (0, u "Lcom/example/tallywire/tallywire/rules/PathNode;"), (0, .class_ 21), (0, u "java/util/HashMap"), (0, .methodref 20 3), (0, .fieldref 15 24), (0, .nameAndType 25 26), (0, u "givenOn"), (0, u "Ljava/util/Map;"), (0, .class_ 28), (0, u "java/util/IdentityHashMap"), (0, .methodref 27 3), (0, .fieldref 15 31), (0, .nameAndType 32 26), (0, u "touchedOn"), (0, .fieldref 15 34), (0, .nameAndType 35 26), (0, u "removedOn"), (0, .class_ 37), (0, u "java/util/LinkedHashMap"), (0, .methodref 36 3), (0, .fieldref 15 40), (0, .nameAndType 41 26), (0, u "named"), (0, .fieldref 15 43), (0, .nameAndType 44 45), (0, u "lines"), (0, u "Lcom/example/tallywire/tallywire/rules/LineReader;"), (0, .class_ 47), (0, u "com/example/tallywire/tallywire/rules/Layer"), (0, .fieldref 15 49), (0, .nameAndType 50 51), (0, u "facts"), (0, u "I"), (0, .fieldref 15 53), (0, .nameAndType 54 51), (0, u "tallies"), (0, .interfaceMethodref 56 57), (0, .class_ 58), (0, .nameAndType 59 60), (0, u "java/util/Set"), (0, u "of"), (0, u "()Ljava/util/Set;"), (0, .methodref 46 62), (0, .nameAndType 5 63), (0, u "(Lcom/example/tallywire/tallywire/rules/PathNode;IILjava/util/Set;)V"), (14, u "()I"), (12, .class_ 92), (0, u "com/example/tallywire/tallywire/rules/GuidelineTree$Given"), (202, u "(Lcom/example/tallywire/tallywire/rules/LineReader;)V"), (2, u "layer"), (0, u "()Lcom/example/tallywire/tallywire/rules/Layer;"), (3, u "nextTally")] 83

def k2c0 : Code := { maxStack := 4, maxLocals := 2, code := prog_137_method_1_code, exceptionTable := #[], attributes := #[] }
def k2m0 : Method := { name := "<init>", desc := "(Lcom/example/tallywire/tallywire/rules/LineReader;)V", sig := { parameters := [(.object "com/example/tallywire/tallywire/rules/LineReader")], returnType := none }, accessFlags := 0, code := some k2c0 }
def k2c1 : Code := { maxStack := 6, maxLocals := 1, code := prog_137_method_2_code, exceptionTable := #[], attributes := #[] }
def k2m1 : Method := { name := "layer", desc := "()Lcom/example/tallywire/tallywire/rules/Layer;", sig := { parameters := [], returnType := some (.object "com/example/tallywire/tallywire/rules/Layer") }, accessFlags := 0, code := some k2c1 }
def k2c2 : Code := { maxStack := 4, maxLocals := 1, code := prog_137_method_6_code, exceptionTable := #[], attributes := #[] }
def k2m2 : Method := { name := "nextTally", desc := "()I", sig := { parameters := [], returnType := some .int }, accessFlags := 0, code := some k2c2 }
/-- com/example/tallywire/tallywire/rules/GuidelineTree -/
def k2 : Class := { plain "com/example/tallywire/tallywire/rules/GuidelineTree" (some 0) with
  accessFlags := 48
  interfaces := #[]
  cf := some (fileOf pool2 15 #[.nestMembers #[91]] #[{ accessFlags := 0, nameIndex := 5, descriptorIndex := 295, attributes := #[] }, { accessFlags := 0, nameIndex := 298, descriptorIndex := 299, attributes := #[] }, { accessFlags := 0, nameIndex := 303, descriptorIndex := 78, attributes := #[] }] 48 2 #[] #[{ accessFlags := 18, nameIndex := 44, descriptorIndex := 45, attributes := #[] }, { accessFlags := 18, nameIndex := 18, descriptorIndex := 19, attributes := #[] }, { accessFlags := 18, nameIndex := 25, descriptorIndex := 26, attributes := #[] }, { accessFlags := 18, nameIndex := 32, descriptorIndex := 26, attributes := #[] }, { accessFlags := 18, nameIndex := 35, descriptorIndex := 26, attributes := #[] }, { accessFlags := 18, nameIndex := 41, descriptorIndex := 26, attributes := #[] }, { accessFlags := 2, nameIndex := 50, descriptorIndex := 51, attributes := #[] }, { accessFlags := 2, nameIndex := 54, descriptorIndex := 51, attributes := #[] }])
  fields := #[{ name := "lines", type := (.object "com/example/tallywire/tallywire/rules/LineReader"), accessFlags := 18, slot := 0, constantValue := 0 }, { name := "root", type := (.object "com/example/tallywire/tallywire/rules/PathNode"), accessFlags := 18, slot := 1, constantValue := 0 }, { name := "givenOn", type := (.object "java/util/Map"), accessFlags := 18, slot := 2, constantValue := 0 }, { name := "touchedOn", type := (.object "java/util/Map"), accessFlags := 18, slot := 3, constantValue := 0 }, { name := "removedOn", type := (.object "java/util/Map"), accessFlags := 18, slot := 4, constantValue := 0 }, { name := "named", type := (.object "java/util/Map"), accessFlags := 18, slot := 5, constantValue := 0 }, { name := "facts", type := .int, accessFlags := 2, slot := 6, constantValue := 0 }, { name := "tallies", type := .int, accessFlags := 2, slot := 7, constantValue := 0 }]
  methods := #[k2m0, k2m1, k2m2]
  instanceTypes := #[(.object "com/example/tallywire/tallywire/rules/LineReader"), (.object "com/example/tallywire/tallywire/rules/PathNode"), (.object "java/util/Map"), (.object "java/util/Map"), (.object "java/util/Map"), (.object "java/util/Map"), .int, .int]
  staticTypes := #[]
  resolved := Array.replicate 387 none
  statics := none }

def pool3 : Array CpInfo := pool [(1, .methodref 2 3), (0, .class_ 4), (0, .nameAndType 5 6), (0, u "java/lang/Object"), (0, u "<init>"), (0, u "()V"), (0, .fieldref 8 9), (0, .class_ 10), (0, .nameAndType 11 12), (0, u "com/example/tallywire/tallywire/rules/LineReader"), (0, u "name"), (0, u "Ljava/lang/String;"), (2, u "LINE_BREAK"), (0, u "Ljava/util/regex/Pattern;"), (20, u "lineNumber"), (0, u "I"), (2, u "linePaths"), (41, .class_ 84), (0, u "com/example/tallywire/tallywire/rules/LineReader$Word"), (35, .class_ 121), (0, u "com/example/tallywire/tallywire/rules/LineReader$GroupReader"), (13, u "filePaths"), (60, u "NAME"), (31, u "COUNT"), (29, u "(Ljava/lang/String;)V"), (6, u "MAX_GROUP_DEPTH"), (2, u "MAX_LINE_PATHS"), (1, u "MAX_FILE_PATHS"), (1, u "MAX_PATH_LENGTH"), (1, u "CLOSE"), (0, u "BYTE_ORDER_MARK"), (0, u "GROUP_OPEN"), (0, u "C"), (1, u "GROUP_CLOSE"), (1, u "GROUP_COMMA")] 55

def k3c0 : Code := { maxStack := 2, maxLocals := 2, code := prog_143_method_1_code, exceptionTable := #[], attributes := #[] }
def k3m0 : Method := { name := "<init>", desc := "(Ljava/lang/String;)V", sig := { parameters := [(.object "java/lang/String")], returnType := none }, accessFlags := 0, code := some k3c0 }
/-- com/example/tallywire/tallywire/rules/LineReader -/
def k3 : Class := { plain "com/example/tallywire/tallywire/rules/LineReader" (some 0) with
  accessFlags := 48
  interfaces := #[]
  cf := some (fileOf pool3 8 #[.nestMembers #[83, 120]] #[{ accessFlags := 0, nameIndex := 5, descriptorIndex := 258, attributes := #[] }] 48 2 #[] #[{ accessFlags := 24, nameIndex := 196, descriptorIndex := 16, attributes := #[] }, { accessFlags := 24, nameIndex := 265, descriptorIndex := 38, attributes := #[] }, { accessFlags := 24, nameIndex := 268, descriptorIndex := 38, attributes := #[] }, { accessFlags := 24, nameIndex := 270, descriptorIndex := 38, attributes := #[] }, { accessFlags := 24, nameIndex := 272, descriptorIndex := 38, attributes := #[] }, { accessFlags := 24, nameIndex := 274, descriptorIndex := 12, attributes := #[] }, { accessFlags := 26, nameIndex := 228, descriptorIndex := 16, attributes := #[] }, { accessFlags := 26, nameIndex := 15, descriptorIndex := 16, attributes := #[] }, { accessFlags := 26, nameIndex := 275, descriptorIndex := 12, attributes := #[] }, { accessFlags := 26, nameIndex := 276, descriptorIndex := 277, attributes := #[] }, { accessFlags := 26, nameIndex := 279, descriptorIndex := 277, attributes := #[] }, { accessFlags := 26, nameIndex := 281, descriptorIndex := 277, attributes := #[] }, { accessFlags := 18, nameIndex := 11, descriptorIndex := 12, attributes := #[] }, { accessFlags := 2, nameIndex := 37, descriptorIndex := 38, attributes := #[] }, { accessFlags := 2, nameIndex := 41, descriptorIndex := 38, attributes := #[] }, { accessFlags := 2, nameIndex := 135, descriptorIndex := 38, attributes := #[] }])
  fields := #[{ name := "NAME", type := (.object "java/util/regex/Pattern"), accessFlags := 24, slot := 0, constantValue := 0 }, { name := "MAX_GROUP_DEPTH", type := .int, accessFlags := 24, slot := 1, constantValue := 0 }, { name := "MAX_LINE_PATHS", type := .int, accessFlags := 24, slot := 2, constantValue := 0 }, { name := "MAX_FILE_PATHS", type := .int, accessFlags := 24, slot := 3, constantValue := 0 }, { name := "MAX_PATH_LENGTH", type := .int, accessFlags := 24, slot := 4, constantValue := 0 }, { name := "CLOSE", type := (.object "java/lang/String"), accessFlags := 24, slot := 5, constantValue := 0 }, { name := "COUNT", type := (.object "java/util/regex/Pattern"), accessFlags := 26, slot := 6, constantValue := 0 }, { name := "LINE_BREAK", type := (.object "java/util/regex/Pattern"), accessFlags := 26, slot := 7, constantValue := 0 }, { name := "BYTE_ORDER_MARK", type := (.object "java/lang/String"), accessFlags := 26, slot := 8, constantValue := 0 }, { name := "GROUP_OPEN", type := .char, accessFlags := 26, slot := 9, constantValue := 0 }, { name := "GROUP_CLOSE", type := .char, accessFlags := 26, slot := 10, constantValue := 0 }, { name := "GROUP_COMMA", type := .char, accessFlags := 26, slot := 11, constantValue := 0 }, { name := "name", type := (.object "java/lang/String"), accessFlags := 18, slot := 0, constantValue := 0 }, { name := "lineNumber", type := .int, accessFlags := 2, slot := 1, constantValue := 0 }, { name := "linePaths", type := .int, accessFlags := 2, slot := 2, constantValue := 0 }, { name := "filePaths", type := .int, accessFlags := 2, slot := 3, constantValue := 0 }]
  methods := #[k3m0]
  instanceTypes := #[(.object "java/lang/String"), .int, .int, .int]
  staticTypes := #[(.object "java/util/regex/Pattern"), .int, .int, .int, .int, (.object "java/lang/String"), (.object "java/util/regex/Pattern"), (.object "java/util/regex/Pattern"), (.object "java/lang/String"), .char, .char, .char]
  resolved := Array.replicate 337 none
  statics := none }

def pool4 : Array CpInfo := pool [(1, .class_ 2), (0, u "java/io/Serializable"), (0, .class_ 4), (0, u "java/lang/Object")] 2

/-- java/io/Serializable -/
def k4 : Class := { plain "java/io/Serializable" (some 0) with
  accessFlags := 1537
  interfaces := #[]
  cf := some (fileOf pool4 1 #[] #[] 1537 3 #[] #[])
  fields := #[]
  methods := #[]
  instanceTypes := #[]
  staticTypes := #[]
  resolved := Array.replicate 7 none
  statics := none }

def pool5 : Array CpInfo := pool [(1, .class_ 2), (0, u "java/lang/Comparable"), (0, .class_ 4), (0, u "java/lang/Object")] 7

/-- java/lang/Comparable -/
def k5 : Class := { plain "java/lang/Comparable" (some 0) with
  accessFlags := 1537
  interfaces := #[]
  cf := some (fileOf pool5 1 #[] #[] 1537 3 #[] #[])
  fields := #[]
  methods := #[]
  instanceTypes := #[]
  staticTypes := #[]
  resolved := Array.replicate 12 none
  statics := none }

def pool6 : Array CpInfo := pool [(2, .class_ 4), (1, u "java/lang/CharSequence"), (42, .class_ 48), (0, u "java/lang/CharSequence$1CodePointIterator"), (10, .class_ 60), (0, u "java/lang/CharSequence$1CharIterator"), (5, .class_ 67), (0, u "java/lang/Object")] 63

/-- java/lang/CharSequence -/
def k6 : Class := { plain "java/lang/CharSequence" (some 0) with
  accessFlags := 1537
  interfaces := #[]
  cf := some (fileOf pool6 2 #[.nestMembers #[47, 59]] #[] 1537 66 #[] #[])
  fields := #[]
  methods := #[]
  instanceTypes := #[]
  staticTypes := #[]
  resolved := Array.replicate 131 none
  statics := none }

def pool7 : Array CpInfo := pool [(1, .class_ 2), (0, u "java/lang/constant/Constable"), (0, .class_ 4), (0, u "java/lang/Object")] 6

/-- java/lang/constant/Constable -/
def k7 : Class := { plain "java/lang/constant/Constable" (some 0) with
  accessFlags := 1537
  interfaces := #[]
  cf := some (fileOf pool7 1 #[] #[] 1537 3 #[] #[])
  fields := #[]
  methods := #[]
  instanceTypes := #[]
  staticTypes := #[]
  resolved := Array.replicate 11 none
  statics := none }

def pool8 : Array CpInfo := pool [(1, .class_ 2), (0, u "java/lang/constant/ConstantDesc"), (0, .class_ 4), (0, u "java/lang/Object")] 32

/-- java/lang/constant/ConstantDesc -/
def k8 : Class := { plain "java/lang/constant/ConstantDesc" (some 0) with
  accessFlags := 1537
  interfaces := #[]
  cf := some (fileOf pool8 1 #[] #[] 1537 3 #[] #[])
  fields := #[]
  methods := #[]
  instanceTypes := #[]
  staticTypes := #[]
  resolved := Array.replicate 37 none
  statics := none }

def pool9 : Array CpInfo := pool [(2, .class_ 4), (1, u "java/lang/Object"), (0, u "<init>"), (0, u "()V"), (3, .class_ 12), (1, u "java/lang/String"), (0, u "value"), (0, u "[B"), (2, u "coder"), (0, u "B"), (2, u "hash"), (0, u "I"), (2, u "hashIsZero"), (0, u "Z"), (13, u "COMPACT_STRINGS"), (534, .class_ 576), (0, u "java/lang/CharSequence"), (22, u "CASE_INSENSITIVE_ORDER"), (0, u "Ljava/util/Comparator;"), (500, u "serialPersistentFields"), (0, u "[Ljava/io/ObjectStreamField;"), (0, .class_ 1104), (0, u "java/lang/String$CaseInsensitiveComparator"), (1, .class_ 1107), (0, u "java/io/Serializable"), (0, .class_ 1109), (0, u "java/lang/Comparable"), (0, .class_ 1111), (0, u "java/lang/constant/Constable"), (0, .class_ 1113), (0, u "java/lang/constant/ConstantDesc"), (2, u "serialVersionUID"), (0, u "J"), (3, u "REPL"), (0, u "C"), (2, u "LATIN1"), (1, u "UTF16")] 323

def k9m0 : Method := { name := "<init>", desc := "()V", sig := { parameters := [], returnType := none }, accessFlags := 1, code := none }
/-- java/lang/String -/
def k9 : Class := { plain "java/lang/String" (some 0) with
  accessFlags := 49
  interfaces := #[4, 5, 6, 7, 8]
  cf := some (fileOf pool9 10 #[.nestMembers #[1103]] #[{ accessFlags := 1, nameIndex := 5, descriptorIndex := 6, attributes := #[] }] 49 2 #[1106, 1108, 575, 1110, 1112] #[{ accessFlags := 18, nameIndex := 13, descriptorIndex := 14, attributes := #[] }, { accessFlags := 18, nameIndex := 17, descriptorIndex := 18, attributes := #[] }, { accessFlags := 2, nameIndex := 21, descriptorIndex := 22, attributes := #[] }, { accessFlags := 2, nameIndex := 25, descriptorIndex := 26, attributes := #[] }, { accessFlags := 26, nameIndex := 1116, descriptorIndex := 1117, attributes := #[] }, { accessFlags := 24, nameIndex := 40, descriptorIndex := 26, attributes := #[] }, { accessFlags := 26, nameIndex := 1101, descriptorIndex := 1102, attributes := #[] }, { accessFlags := 26, nameIndex := 1121, descriptorIndex := 1122, attributes := #[] }, { accessFlags := 25, nameIndex := 599, descriptorIndex := 600, attributes := #[] }, { accessFlags := 24, nameIndex := 1125, descriptorIndex := 18, attributes := #[] }, { accessFlags := 24, nameIndex := 1127, descriptorIndex := 18, attributes := #[] }])
  fields := #[{ name := "value", type := (.array .byte), accessFlags := 18, slot := 0, constantValue := 0 }, { name := "coder", type := .byte, accessFlags := 18, slot := 1, constantValue := 0 }, { name := "hash", type := .int, accessFlags := 2, slot := 2, constantValue := 0 }, { name := "hashIsZero", type := .boolean, accessFlags := 2, slot := 3, constantValue := 0 }, { name := "serialVersionUID", type := .long, accessFlags := 26, slot := 0, constantValue := 0 }, { name := "COMPACT_STRINGS", type := .boolean, accessFlags := 24, slot := 1, constantValue := 0 }, { name := "serialPersistentFields", type := (.array (.object "java/io/ObjectStreamField")), accessFlags := 26, slot := 2, constantValue := 0 }, { name := "REPL", type := .char, accessFlags := 26, slot := 3, constantValue := 0 }, { name := "CASE_INSENSITIVE_ORDER", type := (.object "java/util/Comparator"), accessFlags := 25, slot := 4, constantValue := 0 }, { name := "LATIN1", type := .byte, accessFlags := 24, slot := 5, constantValue := 0 }, { name := "UTF16", type := .byte, accessFlags := 24, slot := 6, constantValue := 0 }]
  methods := #[k9m0]
  instanceTypes := #[(.array .byte), .byte, .int, .boolean]
  staticTypes := #[.long, .boolean, (.array (.object "java/io/ObjectStreamField")), .char, (.object "java/util/Comparator"), .byte, .byte]
  resolved := Array.replicate 1451 none
  statics := none }

def pool10 : Array CpInfo := pool [(1, .methodref 2 3), (0, .class_ 4), (0, .nameAndType 5 6), (0, u "java/lang/Object"), (0, u "<init>"), (0, u "()V"), (0, .class_ 8), (0, u "java/util/LinkedHashMap"), (0, .methodref 7 3), (0, .fieldref 11 12), (0, .class_ 13), (0, .nameAndType 14 15), (0, u "com/example/tallywire/tallywire/rules/PathNode"), (0, u "children"), (0, u "Ljava/util/Map;"), (0, .class_ 17), (0, u "java/util/ArrayList"), (0, .methodref 16 3), (0, .fieldref 11 20), (0, .nameAndType 21 22), (0, u "values"), (0, u "Ljava/util/List;"), (0, .fieldref 11 24), (0, .nameAndType 25 15), (0, u "attributes"), (0, .fieldref 11 27), (0, .nameAndType 28 22), (0, u "requiredChildren"), (0, .fieldref 11 30), (0, .nameAndType 31 22), (0, u "rules"), (0, .fieldref 11 33), (0, .nameAndType 34 22), (0, u "facts"), (0, .fieldref 11 36), (0, .nameAndType 37 22), (0, u "valueFacts"), (0, .fieldref 11 39), (0, .nameAndType 40 22), (0, u "textFacts"), (0, .fieldref 11 42), (0, .nameAndType 43 22), (0, u "anchored"), (0, .fieldref 11 45), (0, .nameAndType 46 22), (0, u "lacks"), (0, .fieldref 11 48), (0, .nameAndType 49 22), (0, u "tallies"), (0, .fieldref 11 51), (0, .nameAndType 52 22), (0, u "tallyItems"), (0, .fieldref 11 54), (0, .nameAndType 55 56), (0, u "requiredIndex"), (0, u "I"), (0, .fieldref 11 58), (0, .nameAndType 59 60), (0, u "name"), (0, u "Ljava/lang/String;"), (9, u "removed"), (0, u "Lcom/example/tallywire/tallywire/rules/Restriction;"), (0, u "required"), (0, u "maxOccursRestriction"), (0, u "maxOccurs"), (0, u "(Ljava/lang/String;)V"), (5, .class_ 82), (0, u "com/example/tallywire/tallywire/rules/PathNode$Lack"), (0, .class_ 84), (0, u "com/example/tallywire/tallywire/rules/PathNode$ValueRestriction")] 3

def k10c0 : Code := { maxStack := 3, maxLocals := 2, code := prog_149_method_1_code, exceptionTable := #[], attributes := #[] }
def k10m0 : Method := { name := "<init>", desc := "(Ljava/lang/String;)V", sig := { parameters := [(.object "java/lang/String")], returnType := none }, accessFlags := 0, code := some k10c0 }
/-- com/example/tallywire/tallywire/rules/PathNode -/
def k10 : Class := { plain "com/example/tallywire/tallywire/rules/PathNode" (some 0) with
  accessFlags := 48
  interfaces := #[]
  cf := some (fileOf pool10 11 #[.nestMembers #[81, 83]] #[{ accessFlags := 0, nameIndex := 5, descriptorIndex := 75, attributes := #[] }] 48 2 #[] #[{ accessFlags := 16, nameIndex := 59, descriptorIndex := 60, attributes := #[] }, { accessFlags := 16, nameIndex := 14, descriptorIndex := 15, attributes := #[] }, { accessFlags := 16, nameIndex := 21, descriptorIndex := 22, attributes := #[] }, { accessFlags := 16, nameIndex := 25, descriptorIndex := 15, attributes := #[] }, { accessFlags := 16, nameIndex := 28, descriptorIndex := 22, attributes := #[] }, { accessFlags := 16, nameIndex := 31, descriptorIndex := 22, attributes := #[] }, { accessFlags := 16, nameIndex := 34, descriptorIndex := 22, attributes := #[] }, { accessFlags := 16, nameIndex := 37, descriptorIndex := 22, attributes := #[] }, { accessFlags := 16, nameIndex := 40, descriptorIndex := 22, attributes := #[] }, { accessFlags := 16, nameIndex := 43, descriptorIndex := 22, attributes := #[] }, { accessFlags := 16, nameIndex := 46, descriptorIndex := 22, attributes := #[] }, { accessFlags := 16, nameIndex := 49, descriptorIndex := 22, attributes := #[] }, { accessFlags := 16, nameIndex := 52, descriptorIndex := 22, attributes := #[] }, { accessFlags := 0, nameIndex := 70, descriptorIndex := 71, attributes := #[] }, { accessFlags := 0, nameIndex := 72, descriptorIndex := 71, attributes := #[] }, { accessFlags := 0, nameIndex := 55, descriptorIndex := 56, attributes := #[] }, { accessFlags := 0, nameIndex := 73, descriptorIndex := 71, attributes := #[] }, { accessFlags := 0, nameIndex := 74, descriptorIndex := 56, attributes := #[] }])
  fields := #[{ name := "name", type := (.object "java/lang/String"), accessFlags := 16, slot := 0, constantValue := 0 }, { name := "children", type := (.object "java/util/Map"), accessFlags := 16, slot := 1, constantValue := 0 }, { name := "values", type := (.object "java/util/List"), accessFlags := 16, slot := 2, constantValue := 0 }, { name := "attributes", type := (.object "java/util/Map"), accessFlags := 16, slot := 3, constantValue := 0 }, { name := "requiredChildren", type := (.object "java/util/List"), accessFlags := 16, slot := 4, constantValue := 0 }, { name := "rules", type := (.object "java/util/List"), accessFlags := 16, slot := 5, constantValue := 0 }, { name := "facts", type := (.object "java/util/List"), accessFlags := 16, slot := 6, constantValue := 0 }, { name := "valueFacts", type := (.object "java/util/List"), accessFlags := 16, slot := 7, constantValue := 0 }, { name := "textFacts", type := (.object "java/util/List"), accessFlags := 16, slot := 8, constantValue := 0 }, { name := "anchored", type := (.object "java/util/List"), accessFlags := 16, slot := 9, constantValue := 0 }, { name := "lacks", type := (.object "java/util/List"), accessFlags := 16, slot := 10, constantValue := 0 }, { name := "tallies", type := (.object "java/util/List"), accessFlags := 16, slot := 11, constantValue := 0 }, { name := "tallyItems", type := (.object "java/util/List"), accessFlags := 16, slot := 12, constantValue := 0 }, { name := "removed", type := (.object "com/example/tallywire/tallywire/rules/Restriction"), accessFlags := 0, slot := 13, constantValue := 0 }, { name := "required", type := (.object "com/example/tallywire/tallywire/rules/Restriction"), accessFlags := 0, slot := 14, constantValue := 0 }, { name := "requiredIndex", type := .int, accessFlags := 0, slot := 15, constantValue := 0 }, { name := "maxOccursRestriction", type := (.object "com/example/tallywire/tallywire/rules/Restriction"), accessFlags := 0, slot := 16, constantValue := 0 }, { name := "maxOccurs", type := .int, accessFlags := 0, slot := 17, constantValue := 0 }]
  methods := #[k10m0]
  instanceTypes := #[(.object "java/lang/String"), (.object "java/util/Map"), (.object "java/util/List"), (.object "java/util/Map"), (.object "java/util/List"), (.object "java/util/List"), (.object "java/util/List"), (.object "java/util/List"), (.object "java/util/List"), (.object "java/util/List"), (.object "java/util/List"), (.object "java/util/List"), (.object "java/util/List"), (.object "com/example/tallywire/tallywire/rules/Restriction"), (.object "com/example/tallywire/tallywire/rules/Restriction"), .int, (.object "com/example/tallywire/tallywire/rules/Restriction"), .int]
  staticTypes := #[]
  resolved := Array.replicate 88 none
  statics := none }

def pool11 : Array CpInfo := pool [(2, .class_ 4), (1, u "java/util/Map"), (31, .class_ 37), (0, u "java/util/Map$Entry"), (55, .class_ 94), (0, u "java/lang/Object")] 168

/-- java/util/Map -/
def k11 : Class := { plain "java/util/Map" (some 0) with
  accessFlags := 1537
  interfaces := #[]
  cf := some (fileOf pool11 2 #[.nestMembers #[36]] #[] 1537 93 #[] #[])
  fields := #[]
  methods := #[]
  instanceTypes := #[]
  staticTypes := #[]
  resolved := Array.replicate 263 none
  statics := none }

def pool12 : Array CpInfo := pool [(1, .methodref 2 3), (0, .class_ 4), (0, .nameAndType 5 6), (0, u "java/lang/Object"), (0, u "<init>"), (0, u "()V"), (1, .class_ 10), (1, u "java/util/AbstractMap"), (42, .class_ 54), (0, u "java/util/Map"), (9, u "keySet"), (0, u "Ljava/util/Set;"), (0, .class_ 67), (0, u "java/util/AbstractMap$1"), (5, u "values"), (0, u "Ljava/util/Collection;"), (0, .class_ 76), (0, u "java/util/AbstractMap$2"), (104, .class_ 182), (0, u "java/util/AbstractMap$ViewCollection"), (0, .class_ 184), (0, u "java/util/AbstractMap$SimpleImmutableEntry"), (0, .class_ 186), (0, u "java/util/AbstractMap$SimpleEntry"), (0, .class_ 188), (0, u "java/util/AbstractMap$2$1"), (0, .class_ 190), (0, u "java/util/AbstractMap$1$1")] 5

def k12c0 : Code := { maxStack := 1, maxLocals := 1, code := jdk_71_method_1_code, exceptionTable := #[], attributes := #[] }
def k12m0 : Method := { name := "<init>", desc := "()V", sig := { parameters := [], returnType := none }, accessFlags := 4, code := some k12c0 }
/-- java/util/AbstractMap -/
def k12 : Class := { plain "java/util/AbstractMap" (some 0) with
  accessFlags := 1057
  interfaces := #[11]
  cf := some (fileOf pool12 8 #[.nestMembers #[181, 183, 185, 75, 187, 66, 189]] #[{ accessFlags := 4, nameIndex := 5, descriptorIndex := 6, attributes := #[] }] 1057 2 #[53] #[{ accessFlags := 128, nameIndex := 64, descriptorIndex := 65, attributes := #[] }, { accessFlags := 128, nameIndex := 73, descriptorIndex := 74, attributes := #[] }])
  fields := #[{ name := "keySet", type := (.object "java/util/Set"), accessFlags := 128, slot := 0, constantValue := 0 }, { name := "values", type := (.object "java/util/Collection"), accessFlags := 128, slot := 1, constantValue := 0 }]
  methods := #[k12m0]
  instanceTypes := #[(.object "java/util/Set"), (.object "java/util/Collection")]
  staticTypes := #[]
  resolved := Array.replicate 196 none
  statics := none }

def pool13 : Array CpInfo := pool [(1, .class_ 2), (0, u "java/lang/Cloneable"), (0, .class_ 4), (0, u "java/lang/Object")] 2

/-- java/lang/Cloneable -/
def k13 : Class := { plain "java/lang/Cloneable" (some 0) with
  accessFlags := 1537
  interfaces := #[]
  cf := some (fileOf pool13 1 #[] #[] 1537 3 #[] #[])
  fields := #[]
  methods := #[]
  instanceTypes := #[]
  staticTypes := #[]
  resolved := Array.replicate 7 none
  statics := none }

def pool14 : Array CpInfo := pool [(40, .class_ 41), (0, u "java/util/HashMap"), (1, .methodref 44 45), (0, .class_ 46), (0, .nameAndType 47 48), (0, u "java/util/AbstractMap"), (0, u "<init>"), (0, u "()V"), (32, .fieldref 40 82), (0, .nameAndType 83 84), (0, u "loadFactor"), (0, u "F"), (5, u "threshold"), (0, u "I"), (0, .float 1061158912), (8, .class_ 103), (1, u "java/util/Map"), (0, u "size"), (2, u "table"), (0, u "[Ljava/util/HashMap$Node;"), (14, u "entrySet"), (39, .class_ 165), (1, u "java/util/HashMap$Node"), (14, .class_ 181), (0, u "java/util/HashMap$TreeNode"), (22, u "modCount"), (37, u "Ljava/util/Set;"), (0, .class_ 244), (0, u "java/util/HashMap$KeySet"), (18, .class_ 264), (0, u "java/util/HashMap$Values"), (3, .class_ 269), (0, u "java/util/HashMap$EntrySet"), (76, .class_ 348), (1, u "java/util/HashMap$UnsafeHolder"), (43, .class_ 393), (0, u "java/lang/Cloneable"), (0, .class_ 395), (0, u "java/io/Serializable"), (0, u "serialVersionUID"), (0, u "J"), (3, u "DEFAULT_INITIAL_CAPACITY"), (1, u "MAXIMUM_CAPACITY"), (0, u "DEFAULT_LOAD_FACTOR"), (0, u "TREEIFY_THRESHOLD"), (1, u "UNTREEIFY_THRESHOLD"), (1, u "MIN_TREEIFY_CAPACITY"), (186, .class_ 597), (0, u "java/util/HashMap$EntrySpliterator"), (0, .class_ 599), (0, u "java/util/HashMap$ValueSpliterator"), (0, .class_ 601), (0, u "java/util/HashMap$KeySpliterator"), (0, .class_ 603), (0, u "java/util/HashMap$HashMapSpliterator"), (0, .class_ 605), (0, u "java/util/HashMap$EntryIterator"), (0, .class_ 607), (0, u "java/util/HashMap$ValueIterator"), (0, .class_ 609), (0, u "java/util/HashMap$KeyIterator"), (0, .class_ 611), (0, u "java/util/HashMap$HashIterator")] 17

def k14c0 : Code := { maxStack := 2, maxLocals := 1, code := jdk_69_method_7_code, exceptionTable := #[], attributes := #[] }
def k14m0 : Method := { name := "<init>", desc := "()V", sig := { parameters := [], returnType := none }, accessFlags := 1, code := some k14c0 }
/-- java/util/HashMap -/
def k14 : Class := { plain "java/util/HashMap" (some 12) with
  accessFlags := 33
  interfaces := #[11, 13, 4]
  cf := some (fileOf pool14 40 #[.nestMembers #[180, 596, 598, 600, 602, 604, 606, 608, 610, 346, 268, 263, 243, 163]] #[{ accessFlags := 1, nameIndex := 47, descriptorIndex := 48, attributes := #[] }] 33 44 #[101, 392, 394] #[{ accessFlags := 26, nameIndex := 396, descriptorIndex := 397, attributes := #[] }, { accessFlags := 24, nameIndex := 401, descriptorIndex := 91, attributes := #[] }, { accessFlags := 24, nameIndex := 403, descriptorIndex := 91, attributes := #[] }, { accessFlags := 24, nameIndex := 404, descriptorIndex := 84, attributes := #[] }, { accessFlags := 24, nameIndex := 405, descriptorIndex := 91, attributes := #[] }, { accessFlags := 24, nameIndex := 407, descriptorIndex := 91, attributes := #[] }, { accessFlags := 24, nameIndex := 409, descriptorIndex := 91, attributes := #[] }, { accessFlags := 128, nameIndex := 107, descriptorIndex := 108, attributes := #[] }, { accessFlags := 128, nameIndex := 123, descriptorIndex := 242, attributes := #[] }, { accessFlags := 128, nameIndex := 104, descriptorIndex := 91, attributes := #[] }, { accessFlags := 128, nameIndex := 204, descriptorIndex := 91, attributes := #[] }, { accessFlags := 0, nameIndex := 90, descriptorIndex := 91, attributes := #[] }, { accessFlags := 16, nameIndex := 83, descriptorIndex := 84, attributes := #[] }])
  fields := #[{ name := "serialVersionUID", type := .long, accessFlags := 26, slot := 0, constantValue := 0 }, { name := "DEFAULT_INITIAL_CAPACITY", type := .int, accessFlags := 24, slot := 1, constantValue := 0 }, { name := "MAXIMUM_CAPACITY", type := .int, accessFlags := 24, slot := 2, constantValue := 0 }, { name := "DEFAULT_LOAD_FACTOR", type := .float, accessFlags := 24, slot := 3, constantValue := 0 }, { name := "TREEIFY_THRESHOLD", type := .int, accessFlags := 24, slot := 4, constantValue := 0 }, { name := "UNTREEIFY_THRESHOLD", type := .int, accessFlags := 24, slot := 5, constantValue := 0 }, { name := "MIN_TREEIFY_CAPACITY", type := .int, accessFlags := 24, slot := 6, constantValue := 0 }, { name := "table", type := (.array (.object "java/util/HashMap$Node")), accessFlags := 128, slot := 2, constantValue := 0 }, { name := "entrySet", type := (.object "java/util/Set"), accessFlags := 128, slot := 3, constantValue := 0 }, { name := "size", type := .int, accessFlags := 128, slot := 4, constantValue := 0 }, { name := "modCount", type := .int, accessFlags := 128, slot := 5, constantValue := 0 }, { name := "threshold", type := .int, accessFlags := 0, slot := 6, constantValue := 0 }, { name := "loadFactor", type := .float, accessFlags := 16, slot := 7, constantValue := 0 }]
  methods := #[k14m0]
  instanceTypes := #[(.object "java/util/Set"), (.object "java/util/Collection"), (.array (.object "java/util/HashMap$Node")), (.object "java/util/Set"), .int, .int, .int, .float]
  staticTypes := #[.long, .int, .int, .float, .int, .int, .int]
  resolved := Array.replicate 629 none
  statics := none }

def pool15 : Array CpInfo := pool [(2, .class_ 4), (1, u "java/util/SequencedMap"), (38, .class_ 44), (0, u "java/util/SequencedMap$1SeqKeySet"), (3, .class_ 49), (0, u "java/util/SequencedMap$1SeqValues"), (1, .class_ 52), (0, u "java/util/SequencedMap$1SeqEntrySet"), (1, .class_ 55), (0, u "java/lang/Object"), (0, .class_ 57), (0, u "java/util/Map")] 48

/-- java/util/SequencedMap -/
def k15 : Class := { plain "java/util/SequencedMap" (some 0) with
  accessFlags := 1537
  interfaces := #[11]
  cf := some (fileOf pool15 2 #[.nestMembers #[51, 48, 43]] #[] 1537 54 #[56] #[])
  fields := #[]
  methods := #[]
  instanceTypes := #[]
  staticTypes := #[]
  resolved := Array.replicate 106 none
  statics := none }

def pool16 : Array CpInfo := pool [(1, .fieldref 2 3), (0, .class_ 4), (0, .nameAndType 5 6), (0, u "java/util/LinkedHashMap"), (0, u "putMode"), (0, u "I"), (2, u "head"), (0, u "Ljava/util/LinkedHashMap$Entry;"), (2, u "tail"), (1, .class_ 17), (1, u "java/util/LinkedHashMap$Entry"), (5, .class_ 25), (1, u "java/util/HashMap"), (1, u "()V"), (2, u "<init>"), (33, .fieldref 2 65), (0, .nameAndType 66 67), (0, u "accessOrder"), (0, u "Z"), (19, .methodref 23 88), (0, .nameAndType 30 27), (32, .class_ 122), (0, u "java/util/LinkedHashMap$LinkedKeySet"), (20, .class_ 144), (0, u "java/util/LinkedHashMap$LinkedValues"), (9, .class_ 155), (0, u "java/util/LinkedHashMap$LinkedEntrySet"), (44, .class_ 201), (0, u "java/util/LinkedHashMap$ReversedLinkedHashMapView"), (3, .class_ 206), (0, u "java/util/SequencedMap"), (0, u "serialVersionUID"), (0, u "J"), (5, u "PUT_NORM"), (1, u "PUT_FIRST"), (1, u "PUT_LAST"), (143, .class_ 363), (0, u "java/util/LinkedHashMap$LinkedEntryIterator"), (0, .class_ 365), (0, u "java/util/LinkedHashMap$LinkedValueIterator"), (0, .class_ 367), (0, u "java/util/LinkedHashMap$LinkedKeyIterator"), (0, .class_ 369), (0, u "java/util/LinkedHashMap$LinkedHashIterator")] 16

def k16c0 : Code := { maxStack := 2, maxLocals := 1, code := jdk_94_method_16_code, exceptionTable := #[], attributes := #[] }
def k16m0 : Method := { name := "<init>", desc := "()V", sig := { parameters := [], returnType := none }, accessFlags := 1, code := some k16c0 }
/-- java/util/LinkedHashMap -/
def k16 : Class := { plain "java/util/LinkedHashMap" (some 14) with
  accessFlags := 33
  interfaces := #[15]
  cf := some (fileOf pool16 2 #[.nestMembers #[200, 362, 364, 366, 368, 154, 143, 121, 15]] #[{ accessFlags := 1, nameIndex := 30, descriptorIndex := 27, attributes := #[] }] 33 23 #[205] #[{ accessFlags := 26, nameIndex := 207, descriptorIndex := 208, attributes := #[] }, { accessFlags := 128, nameIndex := 9, descriptorIndex := 10, attributes := #[] }, { accessFlags := 128, nameIndex := 13, descriptorIndex := 10, attributes := #[] }, { accessFlags := 16, nameIndex := 66, descriptorIndex := 67, attributes := #[] }, { accessFlags := 24, nameIndex := 214, descriptorIndex := 6, attributes := #[] }, { accessFlags := 24, nameIndex := 216, descriptorIndex := 6, attributes := #[] }, { accessFlags := 24, nameIndex := 218, descriptorIndex := 6, attributes := #[] }, { accessFlags := 128, nameIndex := 5, descriptorIndex := 6, attributes := #[] }])
  fields := #[{ name := "serialVersionUID", type := .long, accessFlags := 26, slot := 0, constantValue := 0 }, { name := "head", type := (.object "java/util/LinkedHashMap$Entry"), accessFlags := 128, slot := 8, constantValue := 0 }, { name := "tail", type := (.object "java/util/LinkedHashMap$Entry"), accessFlags := 128, slot := 9, constantValue := 0 }, { name := "accessOrder", type := .boolean, accessFlags := 16, slot := 10, constantValue := 0 }, { name := "PUT_NORM", type := .int, accessFlags := 24, slot := 1, constantValue := 0 }, { name := "PUT_FIRST", type := .int, accessFlags := 24, slot := 2, constantValue := 0 }, { name := "PUT_LAST", type := .int, accessFlags := 24, slot := 3, constantValue := 0 }, { name := "putMode", type := .int, accessFlags := 128, slot := 11, constantValue := 0 }]
  methods := #[k16m0]
  instanceTypes := #[(.object "java/util/Set"), (.object "java/util/Collection"), (.array (.object "java/util/HashMap$Node")), (.object "java/util/Set"), .int, .int, .int, .float, (.object "java/util/LinkedHashMap$Entry"), (.object "java/util/LinkedHashMap$Entry"), .boolean, .int]
  staticTypes := #[.long, .int, .int, .int]
  resolved := Array.replicate 386 none
  statics := none }

def pool17 : Array CpInfo := pool [(8, .class_ 10), (1, u "java/lang/Iterable"), (24, .class_ 36), (0, u "java/lang/Object")] 25

/-- java/lang/Iterable -/
def k17 : Class := { plain "java/lang/Iterable" (some 0) with
  accessFlags := 1537
  interfaces := #[]
  cf := some (fileOf pool17 8 #[] #[] 1537 35 #[] #[])
  fields := #[]
  methods := #[]
  instanceTypes := #[]
  staticTypes := #[]
  resolved := Array.replicate 62 none
  statics := none }

def pool18 : Array CpInfo := pool [(10, .class_ 12), (1, u "java/util/Collection"), (47, .class_ 61), (0, u "java/lang/Object"), (0, .class_ 63), (0, u "java/lang/Iterable")] 51

/-- java/util/Collection -/
def k18 : Class := { plain "java/util/Collection" (some 0) with
  accessFlags := 1537
  interfaces := #[17]
  cf := some (fileOf pool18 10 #[] #[] 1537 60 #[62] #[])
  fields := #[]
  methods := #[]
  instanceTypes := #[]
  staticTypes := #[]
  resolved := Array.replicate 115 none
  statics := none }

def pool19 : Array CpInfo := pool [(1, .methodref 2 3), (0, .class_ 4), (0, .nameAndType 5 6), (0, u "java/lang/Object"), (0, u "<init>"), (0, u "()V"), (1, .class_ 10), (1, u "java/util/AbstractCollection"), (66, .class_ 78), (0, u "java/util/Collection")] 81

def k19c0 : Code := { maxStack := 1, maxLocals := 1, code := jdk_22_method_1_code, exceptionTable := #[], attributes := #[] }
def k19m0 : Method := { name := "<init>", desc := "()V", sig := { parameters := [], returnType := none }, accessFlags := 4, code := some k19c0 }
/-- java/util/AbstractCollection -/
def k19 : Class := { plain "java/util/AbstractCollection" (some 0) with
  accessFlags := 1057
  interfaces := #[18]
  cf := some (fileOf pool19 8 #[] #[{ accessFlags := 4, nameIndex := 5, descriptorIndex := 6, attributes := #[] }] 1057 2 #[77] #[])
  fields := #[]
  methods := #[k19m0]
  instanceTypes := #[]
  staticTypes := #[]
  resolved := Array.replicate 160 none
  statics := none }

def pool20 : Array CpInfo := pool [(8, .class_ 10), (1, u "java/util/SequencedCollection"), (15, .class_ 27), (0, u "java/lang/Object"), (0, .class_ 29), (0, u "java/util/Collection")] 27

/-- java/util/SequencedCollection -/
def k20 : Class := { plain "java/util/SequencedCollection" (some 0) with
  accessFlags := 1537
  interfaces := #[18]
  cf := some (fileOf pool20 8 #[] #[] 1537 26 #[28] #[])
  fields := #[]
  methods := #[]
  instanceTypes := #[]
  staticTypes := #[]
  resolved := Array.replicate 57 none
  statics := none }

def pool21 : Array CpInfo := pool [(8, .class_ 10), (1, u "java/util/List"), (92, .class_ 104), (0, u "java/lang/Object"), (15, .class_ 121), (0, u "java/util/SequencedCollection")] 129

/-- java/util/List -/
def k21 : Class := { plain "java/util/List" (some 0) with
  accessFlags := 1537
  interfaces := #[20]
  cf := some (fileOf pool21 8 #[] #[] 1537 103 #[120] #[])
  fields := #[]
  methods := #[]
  instanceTypes := #[]
  staticTypes := #[]
  resolved := Array.replicate 251 none
  statics := none }

def pool22 : Array CpInfo := pool [(1, .methodref 2 3), (0, .class_ 4), (0, .nameAndType 5 6), (0, u "java/util/AbstractCollection"), (0, u "<init>"), (0, u "()V"), (0, .fieldref 8 9), (0, .class_ 10), (0, .nameAndType 11 12), (0, u "java/util/AbstractList"), (0, u "modCount"), (0, u "I"), (64, .class_ 78), (0, u "java/util/AbstractList$Itr"), (3, .class_ 83), (0, u "java/util/AbstractList$ListItr"), (9, .class_ 94), (0, u "java/util/AbstractList$RandomAccessSubList"), (3, .class_ 99), (0, u "java/util/AbstractList$SubList"), (33, .class_ 134), (0, u "java/util/List"), (73, .class_ 209), (0, u "java/util/AbstractList$SubList$1"), (0, .class_ 211), (0, u "java/util/AbstractList$RandomAccessSpliterator")] 6

def k22c0 : Code := { maxStack := 2, maxLocals := 1, code := jdk_39_method_1_code, exceptionTable := #[], attributes := #[] }
def k22m0 : Method := { name := "<init>", desc := "()V", sig := { parameters := [], returnType := none }, accessFlags := 4, code := some k22c0 }
/-- java/util/AbstractList -/
def k22 : Class := { plain "java/util/AbstractList" (some 19) with
  accessFlags := 1057
  interfaces := #[21]
  cf := some (fileOf pool22 8 #[.nestMembers #[93, 98, 208, 210, 82, 77]] #[{ accessFlags := 4, nameIndex := 5, descriptorIndex := 6, attributes := #[] }] 1057 2 #[133] #[{ accessFlags := 132, nameIndex := 11, descriptorIndex := 12, attributes := #[] }])
  fields := #[{ name := "modCount", type := .int, accessFlags := 132, slot := 0, constantValue := 0 }]
  methods := #[k22m0]
  instanceTypes := #[.int]
  staticTypes := #[]
  resolved := Array.replicate 218 none
  statics := none }

def pool23 : Array CpInfo := pool [(1, .class_ 2), (0, u "java/util/RandomAccess"), (0, .class_ 4), (0, u "java/lang/Object")] 2

/-- java/util/RandomAccess -/
def k23 : Class := { plain "java/util/RandomAccess" (some 0) with
  accessFlags := 1537
  interfaces := #[]
  cf := some (fileOf pool23 1 #[] #[] 1537 3 #[] #[])
  fields := #[]
  methods := #[]
  instanceTypes := #[]
  staticTypes := #[]
  resolved := Array.replicate 7 none
  statics := none }

def pool24 : Array CpInfo := pool [(1, .methodref 2 3), (0, .class_ 4), (0, .nameAndType 5 6), (0, u "java/util/AbstractList"), (0, u "<init>"), (0, u "()V"), (2, .fieldref 10 11), (0, .class_ 12), (0, .nameAndType 13 14), (0, u "java/util/ArrayList"), (0, u "elementData"), (0, u "[Ljava/lang/Object;"), (2, u "EMPTY_ELEMENTDATA"), (21, .fieldref 10 40), (0, .nameAndType 41 14), (0, u "DEFAULTCAPACITY_EMPTY_ELEMENTDATA"), (8, u "size"), (0, u "I"), (96, .class_ 149), (0, u "java/util/List"), (112, .class_ 263), (0, u "java/util/ArrayList$ListItr"), (3, .class_ 268), (0, u "java/util/ArrayList$Itr"), (7, .class_ 277), (0, u "java/util/ArrayList$SubList"), (12, .class_ 291), (0, u "java/util/ArrayList$ArrayListSpliterator"), (37, .class_ 330), (0, u "java/util/RandomAccess"), (0, .class_ 332), (0, u "java/lang/Cloneable"), (0, .class_ 334), (0, u "java/io/Serializable"), (0, u "serialVersionUID"), (0, u "J"), (3, u "DEFAULT_CAPACITY"), (159, .class_ 501), (0, u "java/util/ArrayList$SubList$2"), (0, .class_ 503), (0, u "java/util/ArrayList$SubList$1")] 5

def k24c0 : Code := { maxStack := 2, maxLocals := 1, code := jdk_38_method_2_code, exceptionTable := #[], attributes := #[] }
def k24m0 : Method := { name := "<init>", desc := "()V", sig := { parameters := [], returnType := none }, accessFlags := 1, code := some k24c0 }
/-- java/util/ArrayList -/
def k24 : Class := { plain "java/util/ArrayList" (some 22) with
  accessFlags := 33
  interfaces := #[21, 23, 13, 4]
  cf := some (fileOf pool24 10 #[.nestMembers #[290, 276, 500, 502, 262, 267]] #[{ accessFlags := 1, nameIndex := 5, descriptorIndex := 6, attributes := #[] }] 33 2 #[148, 329, 331, 333] #[{ accessFlags := 26, nameIndex := 335, descriptorIndex := 336, attributes := #[] }, { accessFlags := 26, nameIndex := 340, descriptorIndex := 51, attributes := #[] }, { accessFlags := 26, nameIndex := 17, descriptorIndex := 14, attributes := #[] }, { accessFlags := 26, nameIndex := 41, descriptorIndex := 14, attributes := #[] }, { accessFlags := 128, nameIndex := 13, descriptorIndex := 14, attributes := #[] }, { accessFlags := 2, nameIndex := 50, descriptorIndex := 51, attributes := #[] }])
  fields := #[{ name := "serialVersionUID", type := .long, accessFlags := 26, slot := 0, constantValue := 0 }, { name := "DEFAULT_CAPACITY", type := .int, accessFlags := 26, slot := 1, constantValue := 0 }, { name := "EMPTY_ELEMENTDATA", type := (.array (.object "java/lang/Object")), accessFlags := 26, slot := 2, constantValue := 0 }, { name := "DEFAULTCAPACITY_EMPTY_ELEMENTDATA", type := (.array (.object "java/lang/Object")), accessFlags := 26, slot := 3, constantValue := 0 }, { name := "elementData", type := (.array (.object "java/lang/Object")), accessFlags := 128, slot := 1, constantValue := 0 }, { name := "size", type := .int, accessFlags := 2, slot := 2, constantValue := 0 }]
  methods := #[k24m0]
  instanceTypes := #[.int, (.array (.object "java/lang/Object")), .int]
  staticTypes := #[.long, .int, (.array (.object "java/lang/Object")), (.array (.object "java/lang/Object"))]
  resolved := Array.replicate 509 none
  statics := some 0 }

def pool25 : Array CpInfo := pool [(2, .class_ 4), (1, u "java/util/IdentityHashMap"), (0, u "NULL_KEY"), (0, u "Ljava/lang/Object;"), (0, .methodref 8 9), (0, .class_ 10), (0, .nameAndType 11 12), (0, u "java/util/AbstractMap"), (0, u "<init>"), (0, u "()V"), (0, .methodref 2 14), (0, .nameAndType 15 16), (0, u "init"), (0, u "(I)V"), (32, .class_ 50), (0, u "java/lang/Object"), (0, .fieldref 2 52), (0, .nameAndType 53 54), (0, u "table"), (0, u "[Ljava/lang/Object;"), (1, .class_ 58), (1, u "java/util/Map"), (0, u "size"), (11, u "I"), (24, u "modCount"), (9, u "entrySet"), (50, u "Ljava/util/Set;"), (12, .class_ 171), (0, u "java/util/IdentityHashMap$KeySet"), (7, .class_ 180), (0, u "java/util/IdentityHashMap$Values"), (1, .class_ 183), (0, u "java/util/IdentityHashMap$EntrySet"), (69, .class_ 254), (0, u "java/io/Serializable"), (0, .class_ 256), (0, u "java/lang/Cloneable"), (0, u "DEFAULT_CAPACITY"), (2, u "MINIMUM_CAPACITY"), (1, u "MAXIMUM_CAPACITY"), (2, u "serialVersionUID"), (0, u "J"), (102, .class_ 370), (0, u "java/util/IdentityHashMap$EntrySpliterator"), (0, .class_ 372), (0, u "java/util/IdentityHashMap$ValueSpliterator"), (0, .class_ 374), (0, u "java/util/IdentityHashMap$KeySpliterator"), (0, .class_ 376), (0, u "java/util/IdentityHashMap$IdentityHashMapSpliterator"), (0, .class_ 378), (0, u "java/util/IdentityHashMap$EntryIterator"), (0, .class_ 380), (0, u "java/util/IdentityHashMap$EntryIterator$Entry"), (0, .class_ 382), (0, u "java/util/IdentityHashMap$ValueIterator"), (0, .class_ 384), (0, u "java/util/IdentityHashMap$KeyIterator"), (0, .class_ 386), (0, u "java/util/IdentityHashMap$IdentityHashMapIterator")] 16

def k25c0 : Code := { maxStack := 2, maxLocals := 1, code := jdk_2581_method_3_code, exceptionTable := #[], attributes := #[] }
def k25m0 : Method := { name := "<init>", desc := "()V", sig := { parameters := [], returnType := none }, accessFlags := 1, code := some k25c0 }
def k25c1 : Code := { maxStack := 3, maxLocals := 2, code := jdk_2581_method_6_code, exceptionTable := #[], attributes := #[] }
def k25m1 : Method := { name := "init", desc := "(I)V", sig := { parameters := [.int], returnType := none }, accessFlags := 2, code := some k25c1 }
/-- java/util/IdentityHashMap -/
def k25 : Class := { plain "java/util/IdentityHashMap" (some 12) with
  accessFlags := 33
  interfaces := #[11, 4, 13]
  cf := some (fileOf pool25 2 #[.nestMembers #[369, 371, 373, 375, 182, 179, 170, 377, 379, 381, 383, 385]] #[{ accessFlags := 1, nameIndex := 11, descriptorIndex := 12, attributes := #[] }, { accessFlags := 2, nameIndex := 15, descriptorIndex := 16, attributes := #[] }] 33 8 #[56, 253, 255] #[{ accessFlags := 26, nameIndex := 257, descriptorIndex := 71, attributes := #[] }, { accessFlags := 26, nameIndex := 260, descriptorIndex := 71, attributes := #[] }, { accessFlags := 26, nameIndex := 262, descriptorIndex := 71, attributes := #[] }, { accessFlags := 128, nameIndex := 53, descriptorIndex := 54, attributes := #[] }, { accessFlags := 0, nameIndex := 59, descriptorIndex := 71, attributes := #[] }, { accessFlags := 128, nameIndex := 96, descriptorIndex := 71, attributes := #[] }, { accessFlags := 24, nameIndex := 5, descriptorIndex := 6, attributes := #[] }, { accessFlags := 130, nameIndex := 106, descriptorIndex := 157, attributes := #[] }, { accessFlags := 26, nameIndex := 265, descriptorIndex := 266, attributes := #[] }])
  fields := #[{ name := "DEFAULT_CAPACITY", type := .int, accessFlags := 26, slot := 0, constantValue := 0 }, { name := "MINIMUM_CAPACITY", type := .int, accessFlags := 26, slot := 1, constantValue := 0 }, { name := "MAXIMUM_CAPACITY", type := .int, accessFlags := 26, slot := 2, constantValue := 0 }, { name := "table", type := (.array (.object "java/lang/Object")), accessFlags := 128, slot := 2, constantValue := 0 }, { name := "size", type := .int, accessFlags := 0, slot := 3, constantValue := 0 }, { name := "modCount", type := .int, accessFlags := 128, slot := 4, constantValue := 0 }, { name := "NULL_KEY", type := (.object "java/lang/Object"), accessFlags := 24, slot := 3, constantValue := 0 }, { name := "entrySet", type := (.object "java/util/Set"), accessFlags := 130, slot := 5, constantValue := 0 }, { name := "serialVersionUID", type := .long, accessFlags := 26, slot := 4, constantValue := 0 }]
  methods := #[k25m0, k25m1]
  instanceTypes := #[(.object "java/util/Set"), (.object "java/util/Collection"), (.array (.object "java/lang/Object")), .int, .int, (.object "java/util/Set")]
  staticTypes := #[.int, .int, .int, (.object "java/lang/Object"), .long]
  resolved := Array.replicate 403 none
  statics := none }

def pool26 : Array CpInfo := pool [(1, .methodref 2 3), (0, .class_ 4), (0, .nameAndType 5 6), (0, u "java/lang/Object"), (0, u "<init>"), (0, u "()V"), (0, .class_ 8), (0, u "java/lang/Record")] 13

def k26c0 : Code := { maxStack := 1, maxLocals := 1, code := jdk_30_method_1_code, exceptionTable := #[], attributes := #[] }
def k26m0 : Method := { name := "<init>", desc := "()V", sig := { parameters := [], returnType := none }, accessFlags := 4, code := some k26c0 }
/-- java/lang/Record -/
def k26 : Class := { plain "java/lang/Record" (some 0) with
  accessFlags := 1057
  interfaces := #[]
  cf := some (fileOf pool26 7 #[] #[{ accessFlags := 4, nameIndex := 5, descriptorIndex := 6, attributes := #[] }] 1057 2 #[] #[])
  fields := #[]
  methods := #[k26m0]
  instanceTypes := #[]
  staticTypes := #[]
  resolved := Array.replicate 22 none
  statics := none }

def pool27 : Array CpInfo := pool [(1, .methodref 2 3), (0, .class_ 4), (0, .nameAndType 5 6), (0, u "java/lang/Record"), (0, u "<init>"), (0, u "()V"), (0, .interfaceMethodref 8 9), (0, .class_ 10), (0, .nameAndType 11 12), (0, u "java/util/Set"), (0, u "copyOf"), (0, u "(Ljava/util/Collection;)Ljava/util/Set;"), (0, .fieldref 14 15), (0, .class_ 16), (0, .nameAndType 17 18), (0, u "com/example/tallywire/tallywire/rules/Layer"), (0, u "root"), (0, u "Lcom/example/tallywire/tallywire/rules/PathNode;"), (0, .fieldref 14 20), (0, .nameAndType 21 22), (0, u "facts"), (0, u "I"), (0, .fieldref 14 24), (0, .nameAndType 25 22), (0, u "tallies"), (0, .fieldref 14 27), (0, .nameAndType 28 29), (0, u "off"), (0, u "Ljava/util/Set;"), (11, u "(Lcom/example/tallywire/tallywire/rules/PathNode;IILjava/util/Set;)V"), (22, u "()I")] 27

def k27c0 : Code := { maxStack := 2, maxLocals := 5, code := prog_140_method_1_code, exceptionTable := #[], attributes := #[] }
def k27m0 : Method := { name := "<init>", desc := "(Lcom/example/tallywire/tallywire/rules/PathNode;IILjava/util/Set;)V", sig := { parameters := [(.object "com/example/tallywire/tallywire/rules/PathNode"), .int, .int, (.object "java/util/Set")], returnType := none }, accessFlags := 0, code := some k27c0 }
def k27c1 : Code := { maxStack := 1, maxLocals := 1, code := prog_140_method_7_code, exceptionTable := #[], attributes := #[] }
def k27m1 : Method := { name := "facts", desc := "()I", sig := { parameters := [], returnType := some .int }, accessFlags := 1, code := some k27c1 }
def k27c2 : Code := { maxStack := 1, maxLocals := 1, code := prog_140_method_8_code, exceptionTable := #[], attributes := #[] }
def k27m2 : Method := { name := "tallies", desc := "()I", sig := { parameters := [], returnType := some .int }, accessFlags := 1, code := some k27c2 }
/-- com/example/tallywire/tallywire/rules/Layer -/
def k27 : Class := { plain "com/example/tallywire/tallywire/rules/Layer" (some 26) with
  accessFlags := 48
  interfaces := #[]
  cf := some (fileOf pool27 14 #[] #[{ accessFlags := 0, nameIndex := 5, descriptorIndex := 41, attributes := #[] }, { accessFlags := 1, nameIndex := 21, descriptorIndex := 64, attributes := #[] }, { accessFlags := 1, nameIndex := 25, descriptorIndex := 64, attributes := #[] }] 48 2 #[] #[{ accessFlags := 18, nameIndex := 17, descriptorIndex := 18, attributes := #[] }, { accessFlags := 18, nameIndex := 21, descriptorIndex := 22, attributes := #[] }, { accessFlags := 18, nameIndex := 25, descriptorIndex := 22, attributes := #[] }, { accessFlags := 18, nameIndex := 28, descriptorIndex := 29, attributes := #[] }])
  fields := #[{ name := "root", type := (.object "com/example/tallywire/tallywire/rules/PathNode"), accessFlags := 18, slot := 0, constantValue := 0 }, { name := "facts", type := .int, accessFlags := 18, slot := 1, constantValue := 0 }, { name := "tallies", type := .int, accessFlags := 18, slot := 2, constantValue := 0 }, { name := "off", type := (.object "java/util/Set"), accessFlags := 18, slot := 3, constantValue := 0 }]
  methods := #[k27m0, k27m1, k27m2]
  instanceTypes := #[(.object "com/example/tallywire/tallywire/rules/PathNode"), .int, .int, (.object "java/util/Set")]
  staticTypes := #[]
  resolved := Array.replicate 92 none
  statics := none }

def pool28 : Array CpInfo := pool [(9, .fieldref 10 11), (0, .class_ 12), (0, .nameAndType 13 14), (0, u "java/util/ImmutableCollections"), (0, u "EMPTY_SET"), (0, u "Ljava/util/ImmutableCollections$SetN;"), (11, .class_ 27), (0, u "java/lang/Object"), (3, .class_ 32), (0, u "java/util/ImmutableCollections$AbstractImmutableSet"), (0, .class_ 34), (0, u "java/util/Set"), (1, .class_ 38), (1, u "java/util/Collection"), (4, u "of"), (0, u "()Ljava/util/Set;"), (86, u "copyOf"), (0, u "(Ljava/util/Collection;)Ljava/util/Set;")] 11

def k28c0 : Code := { maxStack := 1, maxLocals := 0, code := jdk_96_method_17_code, exceptionTable := #[], attributes := #[] }
def k28m0 : Method := { name := "of", desc := "()Ljava/util/Set;", sig := { parameters := [], returnType := some (.object "java/util/Set") }, accessFlags := 9, code := some k28c0 }
def k28c1 : Code := { maxStack := 3, maxLocals := 1, code := jdk_96_method_29_code, exceptionTable := #[], attributes := #[] }
def k28m1 : Method := { name := "copyOf", desc := "(Ljava/util/Collection;)Ljava/util/Set;", sig := { parameters := [(.object "java/util/Collection")], returnType := some (.object "java/util/Set") }, accessFlags := 9, code := some k28c1 }
/-- java/util/Set -/
def k28 : Class := { plain "java/util/Set" (some 0) with
  accessFlags := 1537
  interfaces := #[18]
  cf := some (fileOf pool28 33 #[] #[{ accessFlags := 9, nameIndex := 43, descriptorIndex := 44, attributes := #[] }, { accessFlags := 9, nameIndex := 131, descriptorIndex := 132, attributes := #[] }] 1537 26 #[36] #[])
  fields := #[]
  methods := #[k28m0, k28m1]
  instanceTypes := #[]
  staticTypes := #[]
  resolved := Array.replicate 144 none
  statics := none }

def pool29 : Array CpInfo := pool [(2, .class_ 4), (1, u "java/lang/Object"), (0, u "<init>"), (0, u "()V"), (3, .class_ 11), (0, u "java/util/ImmutableCollections$List12"), (0, .class_ 13), (0, u "java/util/ImmutableCollections$ListN"), (3, u "Z"), (29, .class_ 49), (1, u "java/util/ImmutableCollections"), (0, u "$assertionsDisabled"), (5, u "[Ljava/lang/Object;"), (5, u "EMPTY_LIST"), (0, u "Ljava/util/ImmutableCollections$ListN;"), (8, u "EMPTY_LIST_NULLS"), (22, u "SALT32L"), (0, u "J"), (2, u "REVERSE"), (6, u "archivedObjects"), (2, u "EMPTY"), (0, u "Ljava/lang/Object;"), (0, .class_ 112), (0, u "java/util/ImmutableCollections$SetN"), (5, u "EMPTY_SET"), (0, u "Ljava/util/ImmutableCollections$SetN;"), (0, .class_ 121), (0, u "java/util/ImmutableCollections$MapN"), (3, u "EMPTY_MAP"), (0, u "Ljava/util/ImmutableCollections$MapN;"), (4, u "EXPAND_FACTOR"), (0, u "I"), (36, .class_ 170), (0, u "java/util/ImmutableCollections$MapN$MapNIterator"), (0, .class_ 172), (0, u "java/util/ImmutableCollections$MapN$1"), (0, .class_ 174), (0, u "java/util/ImmutableCollections$Map1"), (0, .class_ 176), (0, u "java/util/ImmutableCollections$AbstractImmutableMap"), (0, .class_ 178), (0, u "java/util/ImmutableCollections$SetN$SetNIterator"), (0, .class_ 180), (0, u "java/util/ImmutableCollections$Set12"), (0, .class_ 182), (0, u "java/util/ImmutableCollections$Set12$1"), (0, .class_ 184), (0, u "java/util/ImmutableCollections$AbstractImmutableSet"), (0, .class_ 186), (0, u "java/util/ImmutableCollections$SubList"), (0, .class_ 188), (0, u "java/util/ImmutableCollections$ListItr"), (0, .class_ 190), (0, u "java/util/ImmutableCollections$AbstractImmutableList"), (0, .class_ 192), (0, u "java/util/ImmutableCollections$AbstractImmutableCollection"), (0, .class_ 194), (0, u "java/util/ImmutableCollections$Access"), (0, .class_ 196), (0, u "java/util/ImmutableCollections$Access$1")] 16

def k29m0 : Method := { name := "<init>", desc := "()V", sig := { parameters := [], returnType := none }, accessFlags := 2, code := none }
/-- java/util/ImmutableCollections -/
def k29 : Class := { plain "java/util/ImmutableCollections" (some 0) with
  accessFlags := 32
  interfaces := #[]
  cf := some (fileOf pool29 47 #[.nestMembers #[120, 169, 171, 173, 175, 111, 177, 179, 181, 183, 12, 10, 185, 187, 189, 191, 193, 195]] #[{ accessFlags := 2, nameIndex := 5, descriptorIndex := 6, attributes := #[] }] 32 2 #[] #[{ accessFlags := 26, nameIndex := 95, descriptorIndex := 96, attributes := #[] }, { accessFlags := 26, nameIndex := 99, descriptorIndex := 17, attributes := #[] }, { accessFlags := 10, nameIndex := 106, descriptorIndex := 56, attributes := #[] }, { accessFlags := 26, nameIndex := 109, descriptorIndex := 110, attributes := #[] }, { accessFlags := 24, nameIndex := 62, descriptorIndex := 63, attributes := #[] }, { accessFlags := 24, nameIndex := 72, descriptorIndex := 63, attributes := #[] }, { accessFlags := 24, nameIndex := 118, descriptorIndex := 119, attributes := #[] }, { accessFlags := 24, nameIndex := 125, descriptorIndex := 126, attributes := #[] }, { accessFlags := 24, nameIndex := 131, descriptorIndex := 132, attributes := #[] }, { accessFlags := 4120, nameIndex := 50, descriptorIndex := 17, attributes := #[] }])
  fields := #[{ name := "SALT32L", type := .long, accessFlags := 26, slot := 0, constantValue := 0 }, { name := "REVERSE", type := .boolean, accessFlags := 26, slot := 1, constantValue := 0 }, { name := "archivedObjects", type := (.array (.object "java/lang/Object")), accessFlags := 10, slot := 2, constantValue := 0 }, { name := "EMPTY", type := (.object "java/lang/Object"), accessFlags := 26, slot := 3, constantValue := 0 }, { name := "EMPTY_LIST", type := (.object "java/util/ImmutableCollections$ListN"), accessFlags := 24, slot := 4, constantValue := 0 }, { name := "EMPTY_LIST_NULLS", type := (.object "java/util/ImmutableCollections$ListN"), accessFlags := 24, slot := 5, constantValue := 0 }, { name := "EMPTY_SET", type := (.object "java/util/ImmutableCollections$SetN"), accessFlags := 24, slot := 6, constantValue := 0 }, { name := "EMPTY_MAP", type := (.object "java/util/ImmutableCollections$MapN"), accessFlags := 24, slot := 7, constantValue := 0 }, { name := "EXPAND_FACTOR", type := .int, accessFlags := 24, slot := 8, constantValue := 0 }, { name := "$assertionsDisabled", type := .boolean, accessFlags := 4120, slot := 9, constantValue := 0 }]
  methods := #[k29m0]
  instanceTypes := #[]
  staticTypes := #[.long, .boolean, (.array (.object "java/lang/Object")), (.object "java/lang/Object"), (.object "java/util/ImmutableCollections$ListN"), (.object "java/util/ImmutableCollections$ListN"), (.object "java/util/ImmutableCollections$SetN"), (.object "java/util/ImmutableCollections$MapN"), .int, .boolean]
  resolved := Array.replicate 213 none
  statics := some 1 }

def pool30 : Array CpInfo := pool [(2, .class_ 4), (1, u "java/util/AbstractCollection"), (0, u "<init>"), (0, u "()V"), (1, .class_ 10), (1, u "java/util/ImmutableCollections"), (2, .class_ 14), (0, u "java/util/ImmutableCollections$AbstractImmutableCollection")] 41

def k30m0 : Method := { name := "<init>", desc := "()V", sig := { parameters := [], returnType := none }, accessFlags := 0, code := none }
/-- java/util/ImmutableCollections$AbstractImmutableCollection -/
def k30 : Class := { plain "java/util/ImmutableCollections$AbstractImmutableCollection" (some 19) with
  accessFlags := 1056
  interfaces := #[]
  cf := some (fileOf pool30 13 #[.nestHost 8] #[{ accessFlags := 0, nameIndex := 5, descriptorIndex := 6, attributes := #[] }] 1056 2 #[] #[])
  fields := #[]
  methods := #[k30m0]
  instanceTypes := #[]
  staticTypes := #[]
  resolved := Array.replicate 56 none
  statics := none }

def pool31 : Array CpInfo := pool [(2, .class_ 4), (1, u "java/util/ImmutableCollections$AbstractImmutableCollection"), (0, u "<init>"), (0, u "()V"), (0, .class_ 8), (0, u "java/util/Set"), (7, .class_ 17), (0, u "java/util/ImmutableCollections$AbstractImmutableSet"), (43, .class_ 62), (0, u "java/util/ImmutableCollections")] 3

def k31m0 : Method := { name := "<init>", desc := "()V", sig := { parameters := [], returnType := none }, accessFlags := 0, code := none }
/-- java/util/ImmutableCollections$AbstractImmutableSet -/
def k31 : Class := { plain "java/util/ImmutableCollections$AbstractImmutableSet" (some 30) with
  accessFlags := 1056
  interfaces := #[28]
  cf := some (fileOf pool31 16 #[.nestHost 61] #[{ accessFlags := 0, nameIndex := 5, descriptorIndex := 6, attributes := #[] }] 1056 2 #[7] #[])
  fields := #[]
  methods := #[k31m0]
  instanceTypes := #[]
  staticTypes := #[]
  resolved := Array.replicate 66 none
  statics := none }

def pool32 : Array CpInfo := pool [(1, .class_ 2), (0, u "java/util/ImmutableCollections"), (1, .class_ 6), (1, u "java/util/ImmutableCollections$AbstractImmutableSet"), (3, .class_ 12), (1, u "java/util/ImmutableCollections$SetN"), (0, u "size"), (0, u "I"), (4, u "elements"), (0, u "[Ljava/lang/Object;"), (86, .class_ 108), (0, u "java/io/Serializable")] 59

/-- java/util/ImmutableCollections$SetN -/
def k32 : Class := { plain "java/util/ImmutableCollections$SetN" (some 31) with
  accessFlags := 48
  interfaces := #[4]
  cf := some (fileOf pool32 10 #[.nestHost 1] #[] 48 4 #[107] #[{ accessFlags := 16, nameIndex := 19, descriptorIndex := 20, attributes := #[] }, { accessFlags := 16, nameIndex := 13, descriptorIndex := 14, attributes := #[] }])
  fields := #[{ name := "elements", type := (.array (.object "java/lang/Object")), accessFlags := 16, slot := 0, constantValue := 0 }, { name := "size", type := .int, accessFlags := 16, slot := 1, constantValue := 0 }]
  methods := #[]
  instanceTypes := #[(.array (.object "java/lang/Object")), .int]
  staticTypes := #[]
  resolved := Array.replicate 168 none
  statics := none }

/-- the primitive byte -/
def k33 : Class := { plain "byte" none with kind := .primitive 'B', accessFlags := 0x411 }
/-- [B -/
def k34 : Class := { plain "[B" (some 0) with kind := .array 33 .byte, interfaces := #[13, 4], accessFlags := 1041 }

/-- the primitive int -/
def k35 : Class := { plain "int" none with kind := .primitive 'I', accessFlags := 0x411 }
/-- [I -/
def k36 : Class := { plain "[I" (some 0) with kind := .array 35 .int, interfaces := #[13, 4], accessFlags := 1041 }

/-- [Ljava/lang/Object; -/
def k37 : Class := { plain "[Ljava/lang/Object;" (some 0) with kind := .array 0 (.object "java/lang/Object"), interfaces := #[13, 4], accessFlags := 1041 }

def heap : Heap := #[{ cls := 24, slots := #[.long 0, .int 0, .ref 4, .ref 5], vm := .statics 24 },
  { cls := 29, slots := #[.long 0, .int 0, .null, .null, .null, .null, .ref 3, .null, .int 0, .int 0], vm := .statics 29 },
  { cls := 37, slots := #[], vm := .none },
  { cls := 32, slots := #[.ref 2, .int 0], vm := .none },
  { cls := 37, slots := #[], vm := .none },
  { cls := 37, slots := #[], vm := .none }]
def classes : Array Class := #[k0, k1, k2, k3, k4, k5, k6, k7, k8, k9, k10, k11, k12, k13, k14, k15, k16, k17, k18, k19, k20, k21, k22, k23, k24, k25, k26, k27, k28, k29, k30, k31, k32, k33, k34, k35, k36, k37]
def interned : List (Array UInt16 × Addr) := []
def slotsUsed : Nat := 16
def theMethod : MethodId := ⟨1, 1⟩
def args0 : Array Value := #[.int 5]
def aboutOver (below : List Frame) : State where
  vm := { classes := classes, interned := interned.toArray }
  heap := heap
  slotsUsed := slotsUsed
  threads := #[{ frames := .invoking theMethod args0 :: below }]
def below0 : List Frame := [.native { method := ⟨0, 0⟩, args := #[] }]
def about1 : State := aboutOver below0
def p0 : Program := .bare "" "" ""
def e0 : Env := launch0.env 0 0 0
theorem w_frames : about1.frames = Frame.invoking theMethod args0 :: below0 := rfl
set_option maxRecDepth 65536 in
theorem w_args : argsFit about1.vm theMethod args0 = true := by decide +kernel
set_option maxRecDepth 65536 in
theorem w_heap : heapFits about1 = true := by decide +kernel
set_option maxRecDepth 65536 in
theorem w_runnable : about1.curStatus? = some .runnable := by decide +kernel
set_option maxRecDepth 65536 in
theorem w_alone : about1.alone = true := by decide +kernel
set_option maxRecDepth 65536 in
theorem w_named : about1.methodNamed? x = some theMethod := by decide +kernel
set_option maxRecDepth 65536 in
theorem w_hears : about1.hears theMethod below0 = true := by decide +kernel
set_option maxRecDepth 65536 in
theorem w_ripe : about1.ripe theMethod args0 below0 = true := by decide +kernel
theorem w_running : about1.status = .running := rfl
set_option maxRecDepth 65536 in
theorem w_room : about1.hasRoom e0.platform room_1 = true :=
  launch0.hasRoom_least _ room_1 (by decide +kernel) (by decide +kernel) (by decide +kernel) (by decide +kernel) (by decide +kernel) (by decide +kernel)
theorem allAtoms_all (ts : List Jvm.Cond) (a : Array Jvm.Value) (st : Jvm.State) : (allAtoms ts).before a st = ts.all (fun c => c.before a st) := by
  induction ts with
  | nil => rfl
  | cons c t ih =>
    show (Jvm.Cond.and c (allAtoms t)).before a st = _
    rw [Jvm.Cond.before_and, ih, List.all_cons]
def words1 : List Jvm.Cond := Jvm.Cond.code x code maxLocals ret :: tables_1
/-- a 'code' word, met by the world's own term for the bytes: nothing is compared byte by byte -/
theorem code_word {y : MethodName} {bytes : ByteArray} {mx : Nat} {rt : Option FieldType} {a : Array Value} {s : State} {m : MethodId} {meth : Method} {c : Code} (h1 : s.methodNamed? y = some m) (h2 : s.vm.method? m = some meth) (h3 : meth.code = some c) (h4 : c.code = bytes)
    (h5 : (c.maxLocals == mx && c.exceptionTable.isEmpty && decide (c.maxStack ≤ mostOperands) && decide (meth.sig.returnType = rt) && !meth.locks && decide (parseMethodDescriptor y.desc = some meth.sig)) = true) : (Jvm.Cond.code y bytes mx rt).before a s = true := by
  simp only [Bool.and_eq_true, beq_iff_eq, Bool.not_eq_true', decide_eq_true_eq] at h5
  obtain ⟨⟨⟨⟨⟨g1, g2⟩, g3⟩, g4⟩, g5⟩, g6⟩ := h5
  simp [Cond.before, Cond.holds, Cond.value, h1, h2, h3, h4, g1, g2, g3, g4, g5, g6]
def isCode : Jvm.Cond → Bool
  | .code _ _ _ _ => true
  | _ => false
theorem all_split {L : List Jvm.Cond} {P : Jvm.Cond → Bool} (h1 : L.all (fun c => isCode c || P c) = true) (h2 : ∀ c ∈ L.filter isCode, P c = true) : L.all P = true := by
  refine List.all_eq_true.mpr fun c hc => ?_
  have h := List.all_eq_true.mp h1 c hc
  rcases Bool.eq_false_or_eq_true (isCode c) with hi | hi
  · exact h2 c (List.mem_filter.mpr ⟨hc, hi⟩)
  · simpa [hi] using h
set_option maxRecDepth 65536 in
theorem w_c0 : (Jvm.Cond.code x code maxLocals ret).before args0 about1 = true := code_word (m := ⟨1, 1⟩) (meth := k1m1) (c := k1c1) (by decide +kernel) rfl rfl rfl (by decide +kernel)
set_option maxRecDepth 65536 in
theorem w_c1 : (Jvm.Cond.code ({ cls := "com/example/tallywire/tallywire/rules/LineReader", name := "<init>", desc := "(Ljava/lang/String;)V" } : Jvm.MethodName) prog_143_method_1_code (2 : Nat) (Option.none : Option Jvm.ClassFile.FieldType)).before args0 about1 = true := code_word (m := ⟨3, 0⟩) (meth := k3m0) (c := k3c0) (by decide +kernel) rfl rfl rfl (by decide +kernel)
set_option maxRecDepth 65536 in
theorem w_c2 : (Jvm.Cond.code ({ cls := "java/lang/Object", name := "<init>", desc := "()V" } : Jvm.MethodName) object_method_1_code (1 : Nat) (Option.none : Option Jvm.ClassFile.FieldType)).before args0 about1 = true := code_word (m := ⟨0, 0⟩) (meth := k0m0) (c := k0c0) (by decide +kernel) rfl rfl rfl (by decide +kernel)
set_option maxRecDepth 65536 in
theorem w_c3 : (Jvm.Cond.code ({ cls := "com/example/tallywire/tallywire/rules/GuidelineTree", name := "<init>", desc := "(Lcom/example/tallywire/tallywire/rules/LineReader;)V" } : Jvm.MethodName) prog_137_method_1_code (2 : Nat) (Option.none : Option Jvm.ClassFile.FieldType)).before args0 about1 = true := code_word (m := ⟨2, 0⟩) (meth := k2m0) (c := k2c0) (by decide +kernel) rfl rfl rfl (by decide +kernel)
set_option maxRecDepth 65536 in
theorem w_c4 : (Jvm.Cond.code ({ cls := "com/example/tallywire/tallywire/rules/PathNode", name := "<init>", desc := "(Ljava/lang/String;)V" } : Jvm.MethodName) prog_149_method_1_code (2 : Nat) (Option.none : Option Jvm.ClassFile.FieldType)).before args0 about1 = true := code_word (m := ⟨10, 0⟩) (meth := k10m0) (c := k10c0) (by decide +kernel) rfl rfl rfl (by decide +kernel)
set_option maxRecDepth 65536 in
theorem w_c5 : (Jvm.Cond.code ({ cls := "java/util/LinkedHashMap", name := "<init>", desc := "()V" } : Jvm.MethodName) jdk_94_method_16_code (1 : Nat) (Option.none : Option Jvm.ClassFile.FieldType)).before args0 about1 = true := code_word (m := ⟨16, 0⟩) (meth := k16m0) (c := k16c0) (by decide +kernel) rfl rfl rfl (by decide +kernel)
set_option maxRecDepth 65536 in
theorem w_c6 : (Jvm.Cond.code ({ cls := "java/util/HashMap", name := "<init>", desc := "()V" } : Jvm.MethodName) jdk_69_method_7_code (1 : Nat) (Option.none : Option Jvm.ClassFile.FieldType)).before args0 about1 = true := code_word (m := ⟨14, 0⟩) (meth := k14m0) (c := k14c0) (by decide +kernel) rfl rfl rfl (by decide +kernel)
set_option maxRecDepth 65536 in
theorem w_c7 : (Jvm.Cond.code ({ cls := "java/util/AbstractMap", name := "<init>", desc := "()V" } : Jvm.MethodName) jdk_71_method_1_code (1 : Nat) (Option.none : Option Jvm.ClassFile.FieldType)).before args0 about1 = true := code_word (m := ⟨12, 0⟩) (meth := k12m0) (c := k12c0) (by decide +kernel) rfl rfl rfl (by decide +kernel)
set_option maxRecDepth 65536 in
theorem w_c8 : (Jvm.Cond.code ({ cls := "java/util/ArrayList", name := "<init>", desc := "()V" } : Jvm.MethodName) jdk_38_method_2_code (1 : Nat) (Option.none : Option Jvm.ClassFile.FieldType)).before args0 about1 = true := code_word (m := ⟨24, 0⟩) (meth := k24m0) (c := k24c0) (by decide +kernel) rfl rfl rfl (by decide +kernel)
set_option maxRecDepth 65536 in
theorem w_c9 : (Jvm.Cond.code ({ cls := "java/util/AbstractList", name := "<init>", desc := "()V" } : Jvm.MethodName) jdk_39_method_1_code (1 : Nat) (Option.none : Option Jvm.ClassFile.FieldType)).before args0 about1 = true := code_word (m := ⟨22, 0⟩) (meth := k22m0) (c := k22c0) (by decide +kernel) rfl rfl rfl (by decide +kernel)
set_option maxRecDepth 65536 in
theorem w_c10 : (Jvm.Cond.code ({ cls := "java/util/AbstractCollection", name := "<init>", desc := "()V" } : Jvm.MethodName) jdk_22_method_1_code (1 : Nat) (Option.none : Option Jvm.ClassFile.FieldType)).before args0 about1 = true := code_word (m := ⟨19, 0⟩) (meth := k19m0) (c := k19c0) (by decide +kernel) rfl rfl rfl (by decide +kernel)
set_option maxRecDepth 65536 in
theorem w_c11 : (Jvm.Cond.code ({ cls := "java/util/IdentityHashMap", name := "<init>", desc := "()V" } : Jvm.MethodName) jdk_2581_method_3_code (1 : Nat) (Option.none : Option Jvm.ClassFile.FieldType)).before args0 about1 = true := code_word (m := ⟨25, 0⟩) (meth := k25m0) (c := k25c0) (by decide +kernel) rfl rfl rfl (by decide +kernel)
set_option maxRecDepth 65536 in
theorem w_c12 : (Jvm.Cond.code ({ cls := "java/util/IdentityHashMap", name := "init", desc := "(I)V" } : Jvm.MethodName) jdk_2581_method_6_code (2 : Nat) (Option.none : Option Jvm.ClassFile.FieldType)).before args0 about1 = true := code_word (m := ⟨25, 1⟩) (meth := k25m1) (c := k25c1) (by decide +kernel) rfl rfl rfl (by decide +kernel)
set_option maxRecDepth 65536 in
theorem w_c13 : (Jvm.Cond.code ({ cls := "com/example/tallywire/tallywire/rules/GuidelineTree", name := "layer", desc := "()Lcom/example/tallywire/tallywire/rules/Layer;" } : Jvm.MethodName) prog_137_method_2_code (1 : Nat) (Option.some (Jvm.ClassFile.FieldType.object "com/example/tallywire/tallywire/rules/Layer"))).before args0 about1 = true := code_word (m := ⟨2, 1⟩) (meth := k2m1) (c := k2c1) (by decide +kernel) rfl rfl rfl (by decide +kernel)
set_option maxRecDepth 65536 in
theorem w_c14 : (Jvm.Cond.code ({ cls := "java/util/Set", name := "of", desc := "()Ljava/util/Set;" } : Jvm.MethodName) jdk_96_method_17_code (0 : Nat) (Option.some (Jvm.ClassFile.FieldType.object "java/util/Set"))).before args0 about1 = true := code_word (m := ⟨28, 0⟩) (meth := k28m0) (c := k28c0) (by decide +kernel) rfl rfl rfl (by decide +kernel)
set_option maxRecDepth 65536 in
theorem w_c15 : (Jvm.Cond.code ({ cls := "com/example/tallywire/tallywire/rules/Layer", name := "<init>", desc := "(Lcom/example/tallywire/tallywire/rules/PathNode;IILjava/util/Set;)V" } : Jvm.MethodName) prog_140_method_1_code (5 : Nat) (Option.none : Option Jvm.ClassFile.FieldType)).before args0 about1 = true := code_word (m := ⟨27, 0⟩) (meth := k27m0) (c := k27c0) (by decide +kernel) rfl rfl rfl (by decide +kernel)
set_option maxRecDepth 65536 in
theorem w_c16 : (Jvm.Cond.code ({ cls := "java/lang/Record", name := "<init>", desc := "()V" } : Jvm.MethodName) jdk_30_method_1_code (1 : Nat) (Option.none : Option Jvm.ClassFile.FieldType)).before args0 about1 = true := code_word (m := ⟨26, 0⟩) (meth := k26m0) (c := k26c0) (by decide +kernel) rfl rfl rfl (by decide +kernel)
set_option maxRecDepth 65536 in
theorem w_c17 : (Jvm.Cond.code ({ cls := "java/util/Set", name := "copyOf", desc := "(Ljava/util/Collection;)Ljava/util/Set;" } : Jvm.MethodName) jdk_96_method_29_code (1 : Nat) (Option.some (Jvm.ClassFile.FieldType.object "java/util/Set"))).before args0 about1 = true := code_word (m := ⟨28, 1⟩) (meth := k28m1) (c := k28c1) (by decide +kernel) rfl rfl rfl (by decide +kernel)
set_option maxRecDepth 65536 in
theorem w_c18 : (Jvm.Cond.code ({ cls := "com/example/tallywire/tallywire/rules/Layer", name := "tallies", desc := "()I" } : Jvm.MethodName) prog_140_method_8_code (1 : Nat) (Option.some Jvm.ClassFile.FieldType.int)).before args0 about1 = true := code_word (m := ⟨27, 2⟩) (meth := k27m2) (c := k27c2) (by decide +kernel) rfl rfl rfl (by decide +kernel)
set_option maxRecDepth 65536 in
theorem w_c19 : (Jvm.Cond.code ({ cls := "com/example/tallywire/tallywire/rules/Layer", name := "facts", desc := "()I" } : Jvm.MethodName) prog_140_method_7_code (1 : Nat) (Option.some Jvm.ClassFile.FieldType.int)).before args0 about1 = true := code_word (m := ⟨27, 1⟩) (meth := k27m1) (c := k27c1) (by decide +kernel) rfl rfl rfl (by decide +kernel)
set_option maxRecDepth 65536 in
theorem w_c20 : (Jvm.Cond.code ({ cls := "com/example/tallywire/tallywire/rules/GuidelineTree", name := "nextTally", desc := "()I" } : Jvm.MethodName) prog_137_method_6_code (1 : Nat) (Option.some Jvm.ClassFile.FieldType.int)).before args0 about1 = true := code_word (m := ⟨2, 2⟩) (meth := k2m2) (c := k2c2) (by decide +kernel) rfl rfl rfl (by decide +kernel)
def codes1 : List Jvm.Cond := [Jvm.Cond.code x code maxLocals ret, Jvm.Cond.code ({ cls := "com/example/tallywire/tallywire/rules/LineReader", name := "<init>", desc := "(Ljava/lang/String;)V" } : Jvm.MethodName) prog_143_method_1_code (2 : Nat) (Option.none : Option Jvm.ClassFile.FieldType), Jvm.Cond.code ({ cls := "java/lang/Object", name := "<init>", desc := "()V" } : Jvm.MethodName) object_method_1_code (1 : Nat) (Option.none : Option Jvm.ClassFile.FieldType), Jvm.Cond.code ({ cls := "com/example/tallywire/tallywire/rules/GuidelineTree", name := "<init>", desc := "(Lcom/example/tallywire/tallywire/rules/LineReader;)V" } : Jvm.MethodName) prog_137_method_1_code (2 : Nat) (Option.none : Option Jvm.ClassFile.FieldType), Jvm.Cond.code ({ cls := "com/example/tallywire/tallywire/rules/PathNode", name := "<init>", desc := "(Ljava/lang/String;)V" } : Jvm.MethodName) prog_149_method_1_code (2 : Nat) (Option.none : Option Jvm.ClassFile.FieldType), Jvm.Cond.code ({ cls := "java/util/LinkedHashMap", name := "<init>", desc := "()V" } : Jvm.MethodName) jdk_94_method_16_code (1 : Nat) (Option.none : Option Jvm.ClassFile.FieldType), Jvm.Cond.code ({ cls := "java/util/HashMap", name := "<init>", desc := "()V" } : Jvm.MethodName) jdk_69_method_7_code (1 : Nat) (Option.none : Option Jvm.ClassFile.FieldType), Jvm.Cond.code ({ cls := "java/util/AbstractMap", name := "<init>", desc := "()V" } : Jvm.MethodName) jdk_71_method_1_code (1 : Nat) (Option.none : Option Jvm.ClassFile.FieldType), Jvm.Cond.code ({ cls := "java/util/ArrayList", name := "<init>", desc := "()V" } : Jvm.MethodName) jdk_38_method_2_code (1 : Nat) (Option.none : Option Jvm.ClassFile.FieldType), Jvm.Cond.code ({ cls := "java/util/AbstractList", name := "<init>", desc := "()V" } : Jvm.MethodName) jdk_39_method_1_code (1 : Nat) (Option.none : Option Jvm.ClassFile.FieldType), Jvm.Cond.code ({ cls := "java/util/AbstractCollection", name := "<init>", desc := "()V" } : Jvm.MethodName) jdk_22_method_1_code (1 : Nat) (Option.none : Option Jvm.ClassFile.FieldType), Jvm.Cond.code ({ cls := "java/util/IdentityHashMap", name := "<init>", desc := "()V" } : Jvm.MethodName) jdk_2581_method_3_code (1 : Nat) (Option.none : Option Jvm.ClassFile.FieldType), Jvm.Cond.code ({ cls := "java/util/IdentityHashMap", name := "init", desc := "(I)V" } : Jvm.MethodName) jdk_2581_method_6_code (2 : Nat) (Option.none : Option Jvm.ClassFile.FieldType), Jvm.Cond.code ({ cls := "com/example/tallywire/tallywire/rules/GuidelineTree", name := "layer", desc := "()Lcom/example/tallywire/tallywire/rules/Layer;" } : Jvm.MethodName) prog_137_method_2_code (1 : Nat) (Option.some (Jvm.ClassFile.FieldType.object "com/example/tallywire/tallywire/rules/Layer")), Jvm.Cond.code ({ cls := "java/util/Set", name := "of", desc := "()Ljava/util/Set;" } : Jvm.MethodName) jdk_96_method_17_code (0 : Nat) (Option.some (Jvm.ClassFile.FieldType.object "java/util/Set")), Jvm.Cond.code ({ cls := "com/example/tallywire/tallywire/rules/Layer", name := "<init>", desc := "(Lcom/example/tallywire/tallywire/rules/PathNode;IILjava/util/Set;)V" } : Jvm.MethodName) prog_140_method_1_code (5 : Nat) (Option.none : Option Jvm.ClassFile.FieldType), Jvm.Cond.code ({ cls := "java/lang/Record", name := "<init>", desc := "()V" } : Jvm.MethodName) jdk_30_method_1_code (1 : Nat) (Option.none : Option Jvm.ClassFile.FieldType), Jvm.Cond.code ({ cls := "java/util/Set", name := "copyOf", desc := "(Ljava/util/Collection;)Ljava/util/Set;" } : Jvm.MethodName) jdk_96_method_29_code (1 : Nat) (Option.some (Jvm.ClassFile.FieldType.object "java/util/Set")), Jvm.Cond.code ({ cls := "com/example/tallywire/tallywire/rules/Layer", name := "tallies", desc := "()I" } : Jvm.MethodName) prog_140_method_8_code (1 : Nat) (Option.some Jvm.ClassFile.FieldType.int), Jvm.Cond.code ({ cls := "com/example/tallywire/tallywire/rules/Layer", name := "facts", desc := "()I" } : Jvm.MethodName) prog_140_method_7_code (1 : Nat) (Option.some Jvm.ClassFile.FieldType.int), Jvm.Cond.code ({ cls := "com/example/tallywire/tallywire/rules/GuidelineTree", name := "nextTally", desc := "()I" } : Jvm.MethodName) prog_137_method_6_code (1 : Nat) (Option.some Jvm.ClassFile.FieldType.int)]
set_option maxRecDepth 65536 in
theorem codes_eq : words1.filter isCode = codes1 := rfl
theorem w_codes : ∀ c ∈ words1.filter isCode, c.before args0 about1 = true := by
  rw [codes_eq]
  intro c hc
  simp only [codes1, List.mem_cons, List.not_mem_nil, or_false] at hc
  rcases hc with rfl | rfl | rfl | rfl | rfl | rfl | rfl | rfl | rfl | rfl | rfl | rfl | rfl | rfl | rfl | rfl | rfl | rfl | rfl | rfl | rfl
  · exact w_c0
  · exact w_c1
  · exact w_c2
  · exact w_c3
  · exact w_c4
  · exact w_c5
  · exact w_c6
  · exact w_c7
  · exact w_c8
  · exact w_c9
  · exact w_c10
  · exact w_c11
  · exact w_c12
  · exact w_c13
  · exact w_c14
  · exact w_c15
  · exact w_c16
  · exact w_c17
  · exact w_c18
  · exact w_c19
  · exact w_c20
set_option maxRecDepth 65536 in
theorem w_t1 : (words1.take 24).all (fun c => isCode c || c.before args0 about1) = true := by decide +kernel
set_option maxRecDepth 65536 in
theorem w_t2 : ((words1.drop 24).take 24).all (fun c => isCode c || c.before args0 about1) = true := by decide +kernel
set_option maxRecDepth 65536 in
theorem w_t3 : (((words1.drop 24).drop 24).take 24).all (fun c => isCode c || c.before args0 about1) = true := by decide +kernel
set_option maxRecDepth 65536 in
theorem w_t4 : ((((words1.drop 24).drop 24).drop 24).take 24).all (fun c => isCode c || c.before args0 about1) = true := by decide +kernel
set_option maxRecDepth 65536 in
theorem w_t5 : (((((words1.drop 24).drop 24).drop 24).drop 24).take 24).all (fun c => isCode c || c.before args0 about1) = true := by decide +kernel
set_option maxRecDepth 65536 in
theorem w_t6 : ((((((words1.drop 24).drop 24).drop 24).drop 24).drop 24).take 24).all (fun c => isCode c || c.before args0 about1) = true := by decide +kernel
set_option maxRecDepth 65536 in
theorem w_t7 : (((((((words1.drop 24).drop 24).drop 24).drop 24).drop 24).drop 24).take 24).all (fun c => isCode c || c.before args0 about1) = true := by decide +kernel
set_option maxRecDepth 65536 in
theorem w_t8 : ((((((((words1.drop 24).drop 24).drop 24).drop 24).drop 24).drop 24).drop 24).take 24).all (fun c => isCode c || c.before args0 about1) = true := by decide +kernel
set_option maxRecDepth 65536 in
theorem w_t9 : ((((((((words1.drop 24).drop 24).drop 24).drop 24).drop 24).drop 24).drop 24).drop 24).all (fun c => isCode c || c.before args0 about1) = true := by decide +kernel
theorem w_tables : (allAtoms (Jvm.Cond.code x code maxLocals ret :: tables_1)).before args0 about1 = true := by
  rw [allAtoms_all]
  show words1.all (fun c => c.before args0 about1) = true
  refine all_split ?_ w_codes
  rw [← List.take_append_drop 24 words1, List.all_append, w_t1, ← List.take_append_drop 24 (words1.drop 24), List.all_append, w_t2, ← List.take_append_drop 24 ((words1.drop 24).drop 24), List.all_append, w_t3, ← List.take_append_drop 24 (((words1.drop 24).drop 24).drop 24), List.all_append, w_t4, ← List.take_append_drop 24 ((((words1.drop 24).drop 24).drop 24).drop 24), List.all_append, w_t5, ← List.take_append_drop 24 (((((words1.drop 24).drop 24).drop 24).drop 24).drop 24), List.all_append, w_t6, ← List.take_append_drop 24 ((((((words1.drop 24).drop 24).drop 24).drop 24).drop 24).drop 24), List.all_append, w_t7, ← List.take_append_drop 24 (((((((words1.drop 24).drop 24).drop 24).drop 24).drop 24).drop 24).drop 24), List.all_append, w_t8, w_t9]
  rfl
set_option maxRecDepth 65536 in
theorem w_rest : rest_1_c.before args0 about1 = true := by decide +kernel
set_option maxRecDepth 65536 in
theorem w_case : (Jvm.Cond.and given_1 narrow_1).before args0 about1 = true := by decide +kernel
theorem w_applies : (headSpec (Jvm.Cond.code x code maxLocals ret :: tables_1) room_1).applies x e0.platform about1 = true :=
  (Spec.applies_iff w_frames).mpr ⟨w_running, w_runnable, w_alone, w_named, w_hears, w_ripe, w_room, w_tables⟩
theorem atStart : AtStart classFile x code maxLocals ret World_1 tables_1 room_1 Calls_1 rest_1 Pre_1 launch0 p0 e0 about1 theMethod args0 below0 :=
  ⟨lists_1, trivial, launch0.admits_env _ _ _, launch0.least_env, fairChoices_fair.cas, fairChoices_fair.clock, w_frames, w_args, w_heap, w_applies, trivial, w_rest, w_case⟩
end start1
theorem witness_1 : WitnessClaimed_1 := ⟨start1.p0, start1.e0, start1.about1, start1.theMethod, start1.args0, start1.below0, start1.atStart⟩
end Jvm.Pilot.@@N@@
